/-
  utf8.ValidString: its contract, off the shelf, laid over this program.
-/
import Derived.Test.YtgldcjmdjhghpaaGreatDoorRows
import Derived.Shelf.Unicode.ValidAny
import Derived.Below
namespace Go.Proofs.YtgldcjmdjhghpaaGreatDoor
open Go.RowKit Go.Shelf Go.Lib
set_option linter.unusedVariables false
def vaRen : Go.Shelf.Ren := ⟨fun | 196 => 15 | 259 => 26 | n => n, fun | 9 => 9 | 4 => 4 | 3 => 3 | 5 => 5 | 12 => 12 | 119 => 62 | 0 => 0 | 46 => 66 | 139 => 65 | 138 => 64 | 53 => 22 | n => n, fun | 3 => 0 | 4 => 1 | n => n⟩
set_option maxRecDepth 100000 in
theorem vaLays : Lays.n196 Tryz.prog vaRen :=
  { mixed := by kernel_rfl
    f196 := Tryz.func15.trans (congrArg some (by kernel_rfl))
    f259 := Tryz.func26.trans (congrArg some (by kernel_rfl))
    t0 := Tryz.underlying0
    a0 := Tryz.isAgg0
    z0 := Tryz.sizeOf0
    v0 := Tryz.zeroValue0
    t3 := Tryz.underlying3
    a3 := Tryz.isAgg3
    z3 := Tryz.sizeOf3
    v3 := Tryz.zeroValue3
    t4 := Tryz.underlying4
    a4 := Tryz.isAgg4
    z4 := Tryz.sizeOf4
    v4 := Tryz.zeroValue4
    t5 := Tryz.underlying5
    a5 := Tryz.isAgg5
    z5 := Tryz.sizeOf5
    v5 := Tryz.zeroValue5
    t9 := Tryz.underlying9
    a9 := Tryz.isAgg9
    z9 := Tryz.sizeOf9
    v9 := Tryz.zeroValue9
    t12 := Tryz.underlying12
    a12 := Tryz.isAgg12
    z12 := Tryz.sizeOf12
    v12 := Tryz.zeroValue12
    t46 := Tryz.underlying66
    a46 := Tryz.isAgg66
    z46 := Tryz.sizeOf66
    v46 := Tryz.zeroValue66
    t53 := Tryz.underlying22
    a53 := Tryz.isAgg22
    z53 := Tryz.sizeOf22
    v53 := Tryz.zeroValue22
    t119 := Tryz.underlying62
    a119 := Tryz.isAgg62
    z119 := Tryz.sizeOf62
    t138 := Tryz.underlying64
    a138 := Tryz.isAgg64
    z138 := Tryz.sizeOf64
    v138 := Tryz.zeroValue64
    t139 := Tryz.underlying65
    a139 := Tryz.isAgg65
    z139 := Tryz.sizeOf65
    v139 := Tryz.zeroValue65
    g3 := by kernel_rfl
    g4 := by kernel_rfl }
/-- What ValidString looks at: two tables, as they are laid. -/
def Tabs (w : World) : Prop := Lib.Utf8Tabs (vaRen.g 3) (vaRen.g 4) w
theorem Tabs.on {w w1 : World} (h : Tabs w) (hb : Below w.heap.size w w1) : Tabs w1 := Utf8Tabs_below h hb
theorem valid_any (s : ByteArray) (w : World) (hs : s.size ≤ 9223372036854775807) (hT : Tabs w) :
    Calls Tryz.prog 15 #[.string s] w fun e w' => e = .returned (.bool (Lib.validD s.data.toList)) ∧ Below w.heap.size w w' := Any.utf8_ValidString vaLays s w hs hT
end Go.Proofs.YtgldcjmdjhghpaaGreatDoor
