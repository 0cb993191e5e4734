/-
  FnClaimAlone: its walk, for every input.
-/
import Derived.Test.YtldbelghobohiaaGreatAlone
namespace Go.Proofs.YtldbelghobohiaaGreat
open Go.RowKit Go.Proofs.YtldbelghobohiaaGreatW.PrintWords Go.ChangeShapes Go.WideShapes
set_option linter.unusedVariables false
set_option linter.unusedSimpArgs false
set_option maxRecDepth 100000
abbrev OkPl : Pl → Prop := Both (WfI .i64) (Both StrOk (Both AnyOk (Both (WfI .i32) (AllOk StrOk))))
theorem opens_plain : Opens Tryz.prog 28 kPl OkPl :=
  Opens.struct Tryz.underlying28 (by kernel_rfl)
    (OpensAt.cons rfl rfl (by kernel_rfl) (Opens.int Tryz.underlying3)
      (OpensAt.cons rfl rfl (by kernel_rfl) (Opens.string Tryz.underlying9)
        (OpensAt.cons rfl rfl (by kernel_rfl) (Opens.bool Tryz.underlying4)
          (OpensAt.cons rfl rfl (by kernel_rfl) (Opens.int Tryz.underlying21)
            (OpensAt.last rfl rfl (by kernel_rfl) (Opens.sl Tryz.underlying26 (by kernel_rfl) (Opens.string Tryz.underlying9)))))))
theorem opens_field : Opens Tryz.prog 30 kFd (Both StrOk OkPl) :=
  Opens.struct Tryz.underlying30 (by kernel_rfl)
    (OpensAt.cons rfl rfl (by kernel_rfl) (Opens.string Tryz.underlying9)
      (OpensAt.last rfl rfl (by kernel_rfl) opens_plain))
set_option maxHeartbeats 1000000 in
theorem aloneBig (w : World) (iss sub jti : ByteArray) (v : Value) (h : 2147483647 < iss.size ∨ 2147483647 < sub.size ∨ 2147483647 < jti.size) :
    Calls Tryz.prog 3 #[.string iss, .string sub, .string jti, v] w fun e w' => e = .returned (.bool true) ∧ Below w.heap.size w w' := by
  by_cases h1 : 2147483647 < iss.size
  · have d1 : decide ((2147483647 : Int) < (iss.size : Int)) = true := by rw [decide_eq_true_iff]; omega
    clear h
    go_enter Tryz.func3, Tryz.ntmps3
    go_wp2
    go_ret
    exact ⟨rfl, Below.refl _ _⟩
  have d1 : decide ((2147483647 : Int) < (iss.size : Int)) = false := by rw [decide_eq_false_iff_not]; omega
  by_cases h2 : 2147483647 < sub.size
  · have d2 : decide ((2147483647 : Int) < (sub.size : Int)) = true := by rw [decide_eq_true_iff]; omega
    clear h
    go_enter Tryz.func3, Tryz.ntmps3
    go_wp2
    go_ret
    exact ⟨rfl, Below.refl _ _⟩
  have d2 : decide ((2147483647 : Int) < (sub.size : Int)) = false := by rw [decide_eq_false_iff_not]; omega
  have h3 : 2147483647 < jti.size := by omega
  have d3 : decide ((2147483647 : Int) < (jti.size : Int)) = true := by rw [decide_eq_true_iff]; omega
  clear h
  go_enter Tryz.func3, Tryz.ntmps3
  go_wp2
  go_ret
  exact ⟨rfl, Below.refl _ _⟩
theorem alone_row (iss sub jti : ByteArray) (A : Option Addr) (n c : Nat) (xs : List Fd) (w : World) (h0 : iss.size ≤ 140737488351232) (h1 : sub.size ≤ 140737488351232) (h2 : jti.size ≤ 140737488351232) (hC : kFd.C w A n xs) (ho : AllOk (Both StrOk OkPl) xs) (hn : xs.length * 72 ≤ 140737488351232 ∧ n ≤ c) :
    Calls Tryz.prog 3 #[.string iss, .string sub, .string jti, .slice A n c] w fun e w' => e = .returned (.bool true) ∧ Below w.heap.size w w' := by
  by_cases h : 2147483647 < iss.size ∨ 2147483647 < sub.size ∨ 2147483647 < jti.size
  · exact aloneBig w iss sub jti _ h
  · obtain ⟨gs, hg, hC2, hL⟩ := fg_of hC
    exact aloneMain w iss sub jti A n c gs (by omega) (by omega) (by omega) hC2 hL
end Go.Proofs.YtldbelghobohiaaGreat
