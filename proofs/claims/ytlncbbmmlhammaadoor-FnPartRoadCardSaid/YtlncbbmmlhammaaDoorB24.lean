/-
  Bytes as numbers of 64 bits, in parts of six bits: as the walk spells them. No program in sight.
-/
import Derived.Test.YtlncbbmmlhammaaDoorB
namespace Go.Proofs.YtlncbbmmlhammaaDoor
open Go.RowKit Go.Proofs.YtlncbbmmlhammaaDoorW.PrintWords
set_option linter.unusedVariables false
set_option linter.unusedSimpArgs false
theorem wrapN (n : Nat) (h : n < 18446744073709551616) : IntKind.u64.wrap (n : Int) = (n : Int) := by
  simp only [IntKind.wrap, IntKind.u64, IntKind.signed, IntKind.bits]
  simp
  omega
theorem and63 (a : Nat) (h : a < 18446744073709551616) : bits .and .u64 (a : Int) 63 = ((a % 64 : Nat) : Int) := by
  have := u64_and_nat a 63 h (by decide)
  rw [show (63 : Int) = ((63 : Nat) : Int) from rfl, this, show (63 : Nat) = 2 ^ 6 - 1 from rfl, Nat.and_two_pow_sub_one_eq_mod]
theorem or_add (a b k : Nat) (hb : b < 2 ^ k) : (a * 2 ^ k) ||| b = a * 2 ^ k + b := by
  rw [Nat.mul_comm, ← Nat.two_pow_add_eq_or_of_lt hb]
theorem orN (a b : Nat) (ha : a < 18446744073709551616) (hb : b < 18446744073709551616) : bits .or .u64 (a : Int) (b : Int) = ((a ||| b : Nat) : Int) := u64_or_nat a b ha hb
theorem v1_eq (x : UInt8) : IntKind.u64.wrap (IntKind.u64.wrap (x.toNat : Int) * 65536) = ((x.toNat * 65536 : Nat) : Int) := by
  have h := x.toNat_lt
  rw [wrapN _ (by omega), show (x.toNat : Int) * 65536 = ((x.toNat * 65536 : Nat) : Int) by omega, wrapN _ (by omega)]
theorem v2_eq (x y : UInt8) : bits .or .u64 (IntKind.u64.wrap (IntKind.u64.wrap (x.toNat : Int) * 65536)) (IntKind.u64.wrap (IntKind.u64.wrap (y.toNat : Int) * 256)) = ((x.toNat * 65536 + y.toNat * 256 : Nat) : Int) := by
  have h := x.toNat_lt
  have k := y.toNat_lt
  rw [v1_eq, wrapN y.toNat (by omega), show (y.toNat : Int) * 256 = ((y.toNat * 256 : Nat) : Int) by omega, wrapN _ (by omega), orN _ _ (by omega) (by omega)]
  rw [show x.toNat * 65536 = x.toNat * 2 ^ 16 from rfl, or_add _ _ 16 (by omega)]
theorem v3_eq (x y z : UInt8) : bits .or .u64 (bits .or .u64 (IntKind.u64.wrap (IntKind.u64.wrap (x.toNat : Int) * 65536)) (IntKind.u64.wrap (IntKind.u64.wrap (y.toNat : Int) * 256))) (IntKind.u64.wrap (z.toNat : Int)) = ((x.toNat * 65536 + y.toNat * 256 + z.toNat : Nat) : Int) := by
  have h := x.toNat_lt
  have k := y.toNat_lt
  have l := z.toNat_lt
  rw [v2_eq, wrapN z.toNat (by omega), orN _ _ (by omega) (by omega), show x.toNat * 65536 + y.toNat * 256 = (x.toNat * 256 + y.toNat) * 2 ^ 8 by omega, or_add _ _ 8 (by omega)]
theorem part (n d : Nat) (hn : n < 18446744073709551616) : bits .and .u64 ((n : Int) / (d : Int)) 63 = ((n / d % 64 : Nat) : Int) := by
  rw [← Int.natCast_ediv, and63 _ (Nat.lt_of_le_of_lt (Nat.div_le_self _ _) hn)]
theorem part0 {N : Int} (n d i : Nat) (h : N = (n : Int)) (hn : n < 18446744073709551616) (hi : n / d % 64 = i) : bits .and .u64 (N / (d : Int)) 63 = (i : Int) := by
  rw [h, part n d hn, hi]
theorem part1 {N : Int} (n i : Nat) (h : N = (n : Int)) (hn : n < 18446744073709551616) (hi : n % 64 = i) : bits .and .u64 N 63 = (i : Int) := by
  rw [h, and63 n hn, hi]
end Go.Proofs.YtlncbbmmlhammaaDoor
