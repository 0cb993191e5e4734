/-
  A plain value among the arguments, and lists of them: how they are read.
-/
import Derived.Test.YthmcelofclikbaaPlain
namespace Go.Proofs.Ythmcelofclikbaa
open Go.RowKit Go.Proofs.YthmcelofclikbaaW.PrintWords Go.ChangeShapes Go.WideShapes Go.Deep
set_option linter.unusedVariables false
abbrev OkPl : Pl → Prop := Both (WfI .i64) (Both StrOk (Both AnyOk (Both (WfI .i32) (AllOk StrOk))))
theorem opens_plain : Opens Try.prog 24 kPl OkPl :=
  Opens.struct Try.underlying24 (by kernel_rfl) (OpensAt.cons (i := 0) rfl rfl (by kernel_rfl) (Opens.int Try.underlying3) (OpensAt.cons (i := 1) rfl rfl (by kernel_rfl) (Opens.string Try.underlying9)
    (OpensAt.cons (i := 2) rfl rfl (by kernel_rfl) (Opens.bool Try.underlying4) (OpensAt.cons (i := 3) rfl rfl (by kernel_rfl) (Opens.int Try.underlying21)
      (OpensAt.last (i := 4) rfl rfl (by kernel_rfl) (Opens.sl Try.underlying22 (by kernel_rfl) (Opens.string Try.underlying9)))))))
theorem open_st {H : Type} {enc : TypeId × Value → H} {P : Program} {W : World} {base : Nat} {spare : Nat → Bool} {held : Bool} {t : TypeId} {fs : Array Field} {v : Value} {dd : DataW H} {ps : List MemPlace} {r : Reach} {b0 : Nat}
    {α : Type} {d : Kd α} {ok : α → Prop} (hu : P.underlying t = some (.struct fs)) (hO : Opens P t d ok) (hv : Value.okWide P W r b0 t v)
    (h : DataW.Trod enc P W base spare held t v dd ps) : ∃ (cs : Array Value) (a : α), v = .agg cs ∧ d.K W a cs.toList ∧ ok a := by
  obtain ⟨cs, rfl, _⟩ := okWide_struct hu hv
  obtain ⟨fuel, hf⟩ := h
  obtain ⟨a, hK, hok⟩ := hO.out enc W base spare held fuel _ _ hf
  exact ⟨cs, a, rfl, by simpa [Value.cells] using hK, hok⟩
theorem open_plain {H : Type} {enc : TypeId × Value → H} {W : World} {base : Nat} {spare : Nat → Bool} {held : Bool} {v : Value} {dd : DataW H} {ps : List MemPlace} {r : Reach} {b0 : Nat}
    (hv : Value.okWide Try.prog W r b0 24 v) (h : DataW.Trod enc Try.prog W base spare held 24 v dd ps) : ∃ (x : Pl) (u : Value), v = plV x u ∧ LstIs W u x.2.2.2.2 := by
  obtain ⟨cs, a, rfl, hK, _⟩ := open_st Try.underlying24 opens_plain hv h
  obtain ⟨u, hcs, hL⟩ := kPl_open hK
  refine ⟨a, u, ?_, hL⟩
  unfold plV
  rw [← Array.toArray_toList (xs := cs), hcs]
end Go.Proofs.Ythmcelofclikbaa
