/-
  FnKeySetClones: its row's walk; a move among the arguments.
-/
import Derived.Test.YtpcbmjphffpplaaGreatDoorKtg
import Derived.Test.YtpcbmjphffpplaaGreatDoorKa1
namespace Go.Proofs.YtpcbmjphffpplaaGreatDoor
open Go.RowKit Go.Proofs.YtpcbmjphffpplaaGreatDoorW.PrintWords Go.ChangeShapes Go.WideShapes Go.Deep
set_option linter.unusedVariables false
set_option linter.unusedSimpArgs false
theorem opens_u8 : Opens Tryz.prog 5 kU (WfI .u8) := Opens.int Tryz.underlying5
abbrev kMvP : Kd Mv := Kd.pair (Kd.int .u8) (Kd.pair (Kd.int .u8) (Kd.pair (Kd.int .i8) (Kd.int .u8)))
abbrev OkMv : Mv → Prop := Both (WfI .u8) (Both (WfI .u8) (Both (WfI .i8) (WfI .u8)))
theorem opens_move : Opens Tryz.prog 48 kMvP OkMv :=
  Opens.struct Tryz.underlying48 (by kernel_rfl) (OpensAt.cons (i := 0) rfl rfl (by kernel_rfl) (Opens.int Tryz.underlying5) (OpensAt.cons (i := 1) rfl rfl (by kernel_rfl) (Opens.int Tryz.underlying5)
    (OpensAt.cons (i := 2) rfl rfl (by kernel_rfl) (Opens.int Tryz.underlying46) (OpensAt.last (i := 3) rfl rfl (by kernel_rfl) (Opens.int Tryz.underlying5)))))
theorem kMv_of {w : World} {A : Option Addr} {n : Nat} {xs : List Mv} (h : kMvP.C w A n xs) : kMv.C w A n xs :=
  ReadsRow.imp_ (R := kMvP.K w) (R' := kMv.K w) (size := 4) h (Below.refl _ _) (fun p c hK => by
    obtain ⟨_, _, rfl, rfl, _, _, rfl, rfl, _, _, rfl, rfl, rfl⟩ := hK
    rfl)
theorem mv_ok {l : List Mv} (h : AllOk OkMv l) : ∀ x ∈ l, MvOk x := fun x hx => by
  obtain ⟨h1, h2, h3, h4⟩ := h x hx
  unfold WfI at h1 h2 h3 h4
  simp [Lit.wf, IntKind.min, IntKind.max, IntKind.bits, IntKind.signed] at h1 h2 h3 h4
  exact ⟨⟨by omega, by omega⟩, ⟨by omega, by omega⟩, ⟨by omega, by omega⟩, ⟨by omega, by omega⟩⟩
theorem u8_ok {l : List Int} (h : AllOk (WfI .u8) l) : ∀ i ∈ l, 0 ≤ i ∧ i < 256 := fun i hi => by
  have h1 := h i hi
  unfold WfI at h1
  simp [Lit.wf, IntKind.min, IntKind.max, IntKind.bits, IntKind.signed] at h1
  exact ⟨by omega, by omega⟩
theorem clones_row (A : Option Addr) (n c : Nat) (l : List Int) (A1 : Option Addr) (n1 c1 : Nat) (l1 : List Mv) (x : Int) (W : World) (hC : kU.C W A n l) (hok : AllOk (WfI .u8) l) (_hs : l.length * 1 ≤ 140737488351232 ∧ n ≤ c) (hC1 : kMvP.C W A1 n1 l1) (hok1 : AllOk OkMv l1) (_hs1 : l1.length * 4 ≤ 140737488351232 ∧ n1 ≤ c1) (hx : (Lit.int .u8 x).wf = true) :
    Calls Tryz.prog 3 #[.slice A n c, .slice A1 n1 c1, .int .u8 x] W fun e w' => e = .returned (.bool true) ∧ Below W.heap.size W w' := by
  simp [Lit.wf, IntKind.min, IntKind.max, IntKind.bits, IntKind.signed] at hx
  obtain ⟨k, rfl⟩ : ∃ k : Nat, x = (k : Int) := ⟨x.toNat, by omega⟩
  exact clones_any W A A1 n c n1 c1 l l1 k (by omega) hC (u8_ok hok) (kMv_of hC1) (mv_ok hok1)
end Go.Proofs.YtpcbmjphffpplaaGreatDoor
