/-
  Three bytes as a number of 32 bits, in parts of six bits: as the walk spells them. No program in sight.
-/
import Derived.Test.YtlncbbmmlhammaaDoorB24
namespace Go.Proofs.YtlncbbmmlhammaaDoor
open Go.RowKit Go.Proofs.YtlncbbmmlhammaaDoorW.PrintWords
set_option linter.unusedVariables false
set_option linter.unusedSimpArgs false
theorem or32_0 (x : UInt8) : bits .or .u32 0 ((x.toNat : Int) % 4294967296) = ((x.toNat : Nat) : Int) := by
  have h := x.toNat_lt
  rw [show (x.toNat : Int) % 4294967296 = ((x.toNat : Nat) : Int) by omega, show (0 : Int) = ((0 : Nat) : Int) from rfl, u32_or_nat 0 x.toNat (by omega) (by omega), Nat.zero_or]
theorem or32_step (n : Nat) (y : UInt8) (hn : n < 65536) : bits .or .u32 ((n : Int) * 256 % 4294967296) ((y.toNat : Int) % 4294967296) = ((n * 256 + y.toNat : Nat) : Int) := by
  have h := y.toNat_lt
  rw [show (y.toNat : Int) % 4294967296 = ((y.toNat : Nat) : Int) by omega, show (n : Int) * 256 % 4294967296 = ((n * 256 : Nat) : Int) by omega, u32_or_nat _ _ (by omega) (by omega), or_add n y.toNat 8 (by omega)]
theorem and32 {N : Int} (n d i : Nat) (h : N = (n : Int)) (hn : n < 4294967296) (hi : n / d % 64 = i) : bits .and .u32 (N / (d : Int)) 63 = (i : Int) := by
  rw [h, ← Int.natCast_ediv]
  have := u32_and_nat (n / d) 63 (Nat.lt_of_le_of_lt (Nat.div_le_self _ _) hn) (by decide)
  rw [show (63 : Int) = ((63 : Nat) : Int) from rfl, this, show (63 : Nat) = 2 ^ 6 - 1 from rfl, Nat.and_two_pow_sub_one_eq_mod]
  rw [show (2 : Nat) ^ 6 = 64 from rfl, hi]
theorem and32' {N : Int} (n i : Nat) (h : N = (n : Int)) (hn : n < 4294967296) (hi : n % 64 = i) : bits .and .u32 N 63 = (i : Int) := by
  have := and32 n 1 i h hn (by rw [Nat.div_one]; exact hi)
  rwa [show N / ((1 : Nat) : Int) = N by simp] at this
theorem shl32_0 : (0 : Int) * 256 % 4294967296 = 0 := by decide
end Go.Proofs.YtlncbbmmlhammaaDoor
