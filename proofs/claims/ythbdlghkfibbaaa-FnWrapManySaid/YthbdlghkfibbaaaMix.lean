/-
  The block cipher of a seed: one half, both halves, the block: the pure functions, and what takes them back. impl.mixedHalf, spec.wrapHalf: their contracts.
-/
import Derived.Test.YthbdlghkfibbaaaOwn
import Derived.Laws.BitsAllLaws
import Derived.WalkKit
import Derived.WalkSpells
import Derived.LoopN
namespace Go.Proofs.Ythbdlghkfibbaaa
open Go.RowKit Go.Proofs.YthbdlghkfibbaaaW.PrintWords Go.Lib
set_option linter.unusedVariables false
set_option linter.unusedSimpArgs false
def hv (x : UInt64) : Value := .int .u64 (x.toNat : Int)
def halfU (x k : UInt64) : UInt64 :=
  let a := (x ^^^ k) * 11400714819323198485
  let b := (a ^^^ (a >>> 29)) * 13787848793156543929
  b ^^^ (b >>> 32)
theorem xorU (a b : UInt64) : bits .xor .u64 (a.toNat : Int) (b.toNat : Int) = ((a ^^^ b).toNat : Int) := by
  rw [u64_xor_nat a.toNat b.toNat a.toNat_lt b.toNat_lt, UInt64.toNat_xor]
theorem wrapU (n : Nat) : IntKind.u64.wrap (n : Int) = ((n % 18446744073709551616 : Nat) : Int) := by
  simp only [IntKind.wrap, IntKind.u64, IntKind.signed, IntKind.bits]
  simp
theorem mulU (a b : UInt64) : IntKind.u64.wrap ((a.toNat : Int) * (b.toNat : Int)) = ((a * b).toNat : Int) := by
  rw [← Int.natCast_mul, wrapU, UInt64.toNat_mul]
theorem addU (a b : UInt64) : IntKind.u64.wrap ((a.toNat : Int) + (b.toNat : Int)) = ((a + b).toNat : Int) := by
  rw [← Int.natCast_add, wrapU, UInt64.toNat_add]
theorem shr29 (a : UInt64) : (a.toNat : Int) / (536870912 : Int) = ((a >>> 29).toNat : Int) := by
  rw [UInt64.toNat_shiftRight, show (29 : UInt64).toNat % 64 = 29 from rfl, Nat.shiftRight_eq_div_pow]
  omega
theorem shr32 (a : UInt64) : (a.toNat : Int) / (4294967296 : Int) = ((a >>> 32).toNat : Int) := by
  rw [UInt64.toNat_shiftRight, show (32 : UInt64).toNat % 64 = 32 from rfl, Nat.shiftRight_eq_div_pow]
  omega
theorem half_eq (x k : UInt64) : bits .xor .u64 (IntKind.u64.wrap (bits .xor .u64 (IntKind.u64.wrap (bits .xor .u64 (x.toNat : Int) (k.toNat : Int) * 11400714819323198485)) (IntKind.u64.wrap (bits .xor .u64 (x.toNat : Int) (k.toNat : Int) * 11400714819323198485) / 536870912) * 13787848793156543929))
    (IntKind.u64.wrap (bits .xor .u64 (IntKind.u64.wrap (bits .xor .u64 (x.toNat : Int) (k.toNat : Int) * 11400714819323198485)) (IntKind.u64.wrap (bits .xor .u64 (x.toNat : Int) (k.toNat : Int) * 11400714819323198485) / 536870912) * 13787848793156543929) / 4294967296) = ((halfU x k).toNat : Int) := by
  have m1 : ∀ a : UInt64, IntKind.u64.wrap ((a.toNat : Int) * 11400714819323198485) = ((a * 11400714819323198485).toNat : Int) := fun a => mulU a 11400714819323198485
  have m2 : ∀ a : UInt64, IntKind.u64.wrap ((a.toNat : Int) * 13787848793156543929) = ((a * 13787848793156543929).toNat : Int) := fun a => mulU a 13787848793156543929
  rw [xorU, m1, shr29, xorU, m2, shr32, xorU]
  rfl
theorem half_any (w : World) (x k : UInt64) :
    Calls Try.prog 79 #[hv x, hv k] w fun e w' => e = .returned (hv (halfU x k)) ∧ w = w' := by
  have HE := Aside0.mk (half_eq x k)
  unfold hv
  go_enter Try.func79, Try.ntmps79
  go_wp2
  go_ret
  exact ⟨by rw [← HE.out]; rfl, rfl⟩
theorem shalf_any (w : World) (x k : UInt64) :
    Calls Try.prog 40 #[hv x, hv k] w fun e w' => e = .returned (hv (halfU x k)) ∧ w = w' := by
  have HE := Aside0.mk (half_eq x k)
  unfold hv
  go_enter Try.func40, Try.ntmps40
  go_wp2
  go_ret
  exact ⟨by rw [← HE.out]; rfl, rfl⟩
/-- Four rounds, and back. -/
def mixR (s : UInt64) (p : UInt64 × UInt64) (i : UInt64) : UInt64 × UInt64 := (p.2, p.1 ^^^ halfU p.2 (s + i))
def backR (s : UInt64) (p : UInt64 × UInt64) (i : UInt64) : UInt64 × UInt64 := (p.2 ^^^ halfU p.1 (s + i), p.1)
def mixU (s : UInt64) (p : UInt64 × UInt64) : UInt64 × UInt64 := mixR s (mixR s (mixR s (mixR s p 1) 2) 3) 4
def backU (s : UInt64) (p : UInt64 × UInt64) : UInt64 × UInt64 := backR s (backR s (backR s (backR s p 4) 3) 2) 1
theorem backR_mixR (s : UInt64) (p : UInt64 × UInt64) (i : UInt64) : backR s (mixR s p i) i = p := by
  unfold backR mixR
  simp only [UInt64.xor_assoc, UInt64.xor_self, UInt64.xor_zero]
theorem backU_mixU (s : UInt64) (p : UInt64 × UInt64) : backU s (mixU s p) = p := by
  unfold backU mixU
  rw [backR_mixR, backR_mixR, backR_mixR, backR_mixR]
end Go.Proofs.Ythbdlghkfibbaaa
