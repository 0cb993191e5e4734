/-
  Bits of bytes, as UInt8 has them.
-/
import Derived.Laws.BitsAllLaws
import Derived.Test.YtocjolboglcamaaRows
namespace Go.Proofs.Ytocjolboglcamaa
theorem b8_lt (x : UInt8) : x.toNat < 256 := x.toNat_lt
theorem b8_and (x y : UInt8) : bits .and .u8 (x.toNat : Int) (y.toNat : Int) = ((x &&& y).toNat : Int) := by rw [u8_and_nat _ _ x.toNat_lt y.toNat_lt, UInt8.toNat_and]
theorem b8_or (x y : UInt8) : bits .or .u8 (x.toNat : Int) (y.toNat : Int) = ((x ||| y).toNat : Int) := by rw [u8_or_nat _ _ x.toNat_lt y.toNat_lt, UInt8.toNat_or]
theorem b8_xor (x y : UInt8) : bits .xor .u8 (x.toNat : Int) (y.toNat : Int) = ((x ^^^ y).toNat : Int) := by rw [u8_xor_nat _ _ x.toNat_lt y.toNat_lt, UInt8.toNat_xor]
theorem b8_not (y : UInt8) : (~~~y).toNat = 255 - y.toNat := by
  show (~~~y.toBitVec).toNat = _
  rw [BitVec.toNat_not]
  rfl
theorem b8_andNot (x y : UInt8) : bits .andNot .u8 (x.toNat : Int) (y.toNat : Int) = ((x &&& ~~~y).toNat : Int) := by
  rw [u8_andNot_nat _ _ x.toNat_lt y.toNat_lt, UInt8.toNat_and, b8_not]
theorem b8_full (g p b : UInt8) : g &&& ~~~(p ^^^ b) = 255 ↔ g = 255 ∧ p = b := by
  constructor
  · intro h
    have h' : g.toBitVec &&& ~~~(p.toBitVec ^^^ b.toBitVec) = BitVec.allOnes 8 := congrArg UInt8.toBitVec h
    rw [BitVec.and_eq_allOnes_iff] at h'
    refine ⟨UInt8.toBitVec_inj.1 h'.1, UInt8.toBitVec_inj.1 ?_⟩
    have h2 := congrArg (fun x => ~~~x) h'.2
    simp only [BitVec.not_not, BitVec.not_allOnes] at h2
    exact BitVec.xor_eq_zero_iff.1 h2
  · rintro ⟨rfl, rfl⟩
    rw [UInt8.xor_self]
    rfl
theorem b8_inj {x y : UInt8} : ((x.toNat : Int) = (y.toNat : Int)) ↔ x = y := by
  constructor
  · intro h; exact UInt8.toNat_inj.1 (by omega)
  · rintro rfl; rfl
end Go.Proofs.Ytocjolboglcamaa
