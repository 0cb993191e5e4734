/-
  FnPartKind, FnPartKinds: what is told of a name is one of nine numbers, the same by the code and by the reference: the plain law.
-/
import Derived.Test.YtlncbbmmlhammaaPFnPartKindx
namespace Go.Proofs.Ytlncbbmmlhammaa
open Go.RowKit Go.Proofs.YtlncbbmmlhammaaW.PrintWords Go.Lib
open PFnPartKind (jwebb_IsAESGCMKW.f jwebb_IsAESKW.f jwebb_IsDirect.f jwebb_IsECDHES.f jwebb_IsPBES2.f jwebb_IsRSA15.f jwebb_IsRSAOAEP.f jwebb_IsSymmetric.f jwebb_ContentEncryptionIsSupported.f impl_Chosen.f impl_Chosen.l0 spec_PartKind.f spec_PartKind.j0 spec_PartKind.j1 spec_PartKind.j2 spec_PartKind.j3 spec_PartKind.j4)
set_option linter.unusedVariables false
set_option linter.unusedSimpArgs false
def kindNums : List Int := [129, 130, 132, 8, 144, 32, 64, 256, 0]
set_option maxRecDepth 100000 in
set_option maxHeartbeats 4000000 in
theorem kinds_of (a : ByteArray) : ∃ r, r ∈ kindNums ∧ impl_Chosen.f 10 a = some r ∧ spec_PartKind.f 6 a = some r := by
  have key : ∀ bs : List Bool, ∀ r, bs.length = 9 → impl_Chosen.l0 10 0 bs (9 : Int) 0 = some r → impl_Chosen.l0 10 0 bs (bs.length : Int) 0 = some r := by
    intro bs r hb h
    rw [hb]
    exact h
  unfold impl_Chosen.f jwebb_IsAESGCMKW.f jwebb_IsAESKW.f jwebb_IsDirect.f jwebb_IsECDHES.f jwebb_IsPBES2.f jwebb_IsRSA15.f jwebb_IsRSAOAEP.f jwebb_IsSymmetric.f jwebb_ContentEncryptionIsSupported.f spec_PartKind.f
  simp only [jwebb_IsAESGCMKW.f, jwebb_IsAESKW.f, jwebb_IsDirect.f, jwebb_IsPBES2.f, spec_PartKind.j0, spec_PartKind.j1, spec_PartKind.j2, spec_PartKind.j3, spec_PartKind.j4, beq_iff_eq]
  generalize a.toList = l
  rcases Decidable.em (l = ([65, 49, 50, 56, 71, 67, 77, 75, 87] : List UInt8)) with h0 | h0
  · subst h0
    exact ⟨129, by decide, by decide +kernel, by decide +kernel⟩
  rcases Decidable.em (l = ([65, 49, 57, 50, 71, 67, 77, 75, 87] : List UInt8)) with h1 | h1
  · subst h1
    exact ⟨129, by decide, by decide +kernel, by decide +kernel⟩
  rcases Decidable.em (l = ([65, 50, 53, 54, 71, 67, 77, 75, 87] : List UInt8)) with h2 | h2
  · subst h2
    exact ⟨129, by decide, by decide +kernel, by decide +kernel⟩
  rcases Decidable.em (l = ([65, 49, 50, 56, 75, 87] : List UInt8)) with h3 | h3
  · subst h3
    exact ⟨130, by decide, by decide +kernel, by decide +kernel⟩
  rcases Decidable.em (l = ([65, 49, 57, 50, 75, 87] : List UInt8)) with h4 | h4
  · subst h4
    exact ⟨130, by decide, by decide +kernel, by decide +kernel⟩
  rcases Decidable.em (l = ([65, 50, 53, 54, 75, 87] : List UInt8)) with h5 | h5
  · subst h5
    exact ⟨130, by decide, by decide +kernel, by decide +kernel⟩
  rcases Decidable.em (l = ([100, 105, 114] : List UInt8)) with h6 | h6
  · subst h6
    exact ⟨132, by decide, by decide +kernel, by decide +kernel⟩
  rcases Decidable.em (l = ([69, 67, 68, 72, 45, 69, 83] : List UInt8)) with h7 | h7
  · subst h7
    exact ⟨8, by decide, by decide +kernel, by decide +kernel⟩
  rcases Decidable.em (l = ([69, 67, 68, 72, 45, 69, 83, 43, 65, 49, 50, 56, 75, 87] : List UInt8)) with h8 | h8
  · subst h8
    exact ⟨8, by decide, by decide +kernel, by decide +kernel⟩
  rcases Decidable.em (l = ([69, 67, 68, 72, 45, 69, 83, 43, 65, 49, 57, 50, 75, 87] : List UInt8)) with h9 | h9
  · subst h9
    exact ⟨8, by decide, by decide +kernel, by decide +kernel⟩
  rcases Decidable.em (l = ([69, 67, 68, 72, 45, 69, 83, 43, 65, 50, 53, 54, 75, 87] : List UInt8)) with h10 | h10
  · subst h10
    exact ⟨8, by decide, by decide +kernel, by decide +kernel⟩
  rcases Decidable.em (l = ([80, 66, 69, 83, 50, 45, 72, 83, 50, 53, 54, 43, 65, 49, 50, 56, 75, 87] : List UInt8)) with h11 | h11
  · subst h11
    exact ⟨144, by decide, by decide +kernel, by decide +kernel⟩
  rcases Decidable.em (l = ([80, 66, 69, 83, 50, 45, 72, 83, 51, 56, 52, 43, 65, 49, 57, 50, 75, 87] : List UInt8)) with h12 | h12
  · subst h12
    exact ⟨144, by decide, by decide +kernel, by decide +kernel⟩
  rcases Decidable.em (l = ([80, 66, 69, 83, 50, 45, 72, 83, 53, 49, 50, 43, 65, 50, 53, 54, 75, 87] : List UInt8)) with h13 | h13
  · subst h13
    exact ⟨144, by decide, by decide +kernel, by decide +kernel⟩
  rcases Decidable.em (l = ([82, 83, 65, 49, 95, 53] : List UInt8)) with h14 | h14
  · subst h14
    exact ⟨32, by decide, by decide +kernel, by decide +kernel⟩
  rcases Decidable.em (l = ([82, 83, 65, 45, 79, 65, 69, 80] : List UInt8)) with h15 | h15
  · subst h15
    exact ⟨64, by decide, by decide +kernel, by decide +kernel⟩
  rcases Decidable.em (l = ([82, 83, 65, 45, 79, 65, 69, 80, 45, 50, 53, 54] : List UInt8)) with h16 | h16
  · subst h16
    exact ⟨64, by decide, by decide +kernel, by decide +kernel⟩
  rcases Decidable.em (l = ([82, 83, 65, 45, 79, 65, 69, 80, 45, 51, 56, 52] : List UInt8)) with h17 | h17
  · subst h17
    exact ⟨64, by decide, by decide +kernel, by decide +kernel⟩
  rcases Decidable.em (l = ([82, 83, 65, 45, 79, 65, 69, 80, 45, 53, 49, 50] : List UInt8)) with h18 | h18
  · subst h18
    exact ⟨64, by decide, by decide +kernel, by decide +kernel⟩
  rcases Decidable.em (l = ([65, 49, 50, 56, 71, 67, 77] : List UInt8)) with h19 | h19
  · subst h19
    exact ⟨256, by decide, by decide +kernel, by decide +kernel⟩
  rcases Decidable.em (l = ([65, 49, 57, 50, 71, 67, 77] : List UInt8)) with h20 | h20
  · subst h20
    exact ⟨256, by decide, by decide +kernel, by decide +kernel⟩
  rcases Decidable.em (l = ([65, 50, 53, 54, 71, 67, 77] : List UInt8)) with h21 | h21
  · subst h21
    exact ⟨256, by decide, by decide +kernel, by decide +kernel⟩
  rcases Decidable.em (l = ([65, 49, 50, 56, 67, 66, 67, 45, 72, 83, 50, 53, 54] : List UInt8)) with h22 | h22
  · subst h22
    exact ⟨256, by decide, by decide +kernel, by decide +kernel⟩
  rcases Decidable.em (l = ([65, 49, 57, 50, 67, 66, 67, 45, 72, 83, 51, 56, 52] : List UInt8)) with h23 | h23
  · subst h23
    exact ⟨256, by decide, by decide +kernel, by decide +kernel⟩
  rcases Decidable.em (l = ([65, 50, 53, 54, 67, 66, 67, 45, 72, 83, 53, 49, 50] : List UInt8)) with h24 | h24
  · subst h24
    exact ⟨256, by decide, by decide +kernel, by decide +kernel⟩
  · have e6 : (l == ([100, 105, 114] : List UInt8)) = false := beq_eq_false_iff_ne.mpr h6
    have e14 : (l == ([82, 83, 65, 49, 95, 53] : List UInt8)) = false := beq_eq_false_iff_ne.mpr h14
    refine ⟨0, by decide, ?_, ?_⟩
    · simp only [e6, e14, Bool.false_eq_true, h0, h1, h2, h3, h4, h5, h6, h7, h8, h9, h10, h11, h12, h13, h14, h15, h16, h17, h18, h19, h20, h21, h22, h23, h24, if_false, Option.bind_some]
      decide +kernel
    · simp only [Bool.false_eq_true, h0, h1, h2, h3, h4, h5, h6, h7, h8, h9, h10, h11, h12, h13, h14, h15, h16, h17, h18, h19, h20, h21, h22, h23, h24, if_false]
theorem kinds_dir : impl_Chosen.f 10 ⟨#[100, 105, 114]⟩ = some 132 ∧ spec_PartKind.f 6 ⟨#[100, 105, 114]⟩ = some 132 := by
  exact ⟨by decide +kernel, by decide +kernel⟩
end Go.Proofs.Ytlncbbmmlhammaa
