/-
  Bits of words of 64, as BitVec has them.
-/
import Derived.Laws.BitsAllLaws
import Derived.Test.YtocjolboglcamaaRows
namespace Go.Proofs.Ytocjolboglcamaa
theorem b64_lt (x : BitVec 64) : x.toNat < 18446744073709551616 := x.isLt
theorem b64_of {n : Int} (h0 : 0 ≤ n) (h1 : n < 18446744073709551616) : ∃ x : BitVec 64, n = (x.toNat : Int) :=
  ⟨BitVec.ofNat 64 n.toNat, by rw [BitVec.toNat_ofNat, Nat.mod_eq_of_lt (by omega)]; omega⟩
theorem b64_and (x y : BitVec 64) : bits .and .u64 (x.toNat : Int) (y.toNat : Int) = ((x &&& y).toNat : Int) := by rw [u64_and_nat _ _ x.isLt y.isLt, BitVec.toNat_and]
theorem b64_or (x y : BitVec 64) : bits .or .u64 (x.toNat : Int) (y.toNat : Int) = ((x ||| y).toNat : Int) := by rw [u64_or_nat _ _ x.isLt y.isLt, BitVec.toNat_or]
theorem b64_xor (x y : BitVec 64) : bits .xor .u64 (x.toNat : Int) (y.toNat : Int) = ((x ^^^ y).toNat : Int) := by rw [u64_xor_nat _ _ x.isLt y.isLt, BitVec.toNat_xor]
theorem b64_andNot (x y : BitVec 64) : bits .andNot .u64 (x.toNat : Int) (y.toNat : Int) = ((x &&& ~~~y).toNat : Int) := by
  rw [u64_andNot_nat _ _ x.isLt y.isLt, BitVec.toNat_and, BitVec.toNat_not]
theorem b64_not (y : BitVec 64) : bits .xor .u64 IntKind.u64.max (y.toNat : Int) = ((~~~y).toNat : Int) := by
  have h : IntKind.u64.max = ((BitVec.allOnes 64).toNat : Int) := by decide
  rw [h, b64_xor, BitVec.allOnes_xor]
theorem b64_inj {x y : BitVec 64} : ((x.toNat : Int) = (y.toNat : Int)) ↔ x = y := by
  constructor
  · intro h; exact BitVec.eq_of_toNat_eq (by omega)
  · rintro rfl; rfl
theorem b64_apart1 (s a : BitVec 64) : ((s &&& ~~~a) ||| a) &&& ~~~a = s &&& ~~~a := by
  ext i hi
  simp
  cases s[i] <;> cases a[i] <;> rfl
theorem b64_apart2 (s a : BitVec 64) : s ||| a = ~~~(~~~s &&& ~~~a) := by
  ext i hi
  simp
end Go.Proofs.Ytocjolboglcamaa
