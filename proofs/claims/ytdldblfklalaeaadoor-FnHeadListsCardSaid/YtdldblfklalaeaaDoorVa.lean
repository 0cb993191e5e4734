/-
  utf8.ValidString: its contract, off the shelf, laid over this program.
-/
import Derived.Test.YtdldblfklalaeaaDoorRows
import Derived.Shelf.Unicode.ValidAny
import Derived.Below
namespace Go.Proofs.YtdldblfklalaeaaDoor
open Go.RowKit Go.Shelf Go.Lib
set_option linter.unusedVariables false
def vaRen : Go.Shelf.Ren := ⟨fun | 196 => 11 | 259 => 25 | n => n, fun | 9 => 9 | 4 => 4 | 3 => 3 | 5 => 5 | 12 => 12 | 119 => 59 | 0 => 0 | 46 => 55 | 139 => 62 | 138 => 61 | 53 => 30 | n => n, fun | 3 => 0 | 4 => 1 | n => n⟩
set_option maxRecDepth 100000 in
theorem vaLays : Lays.n196 Tryd.prog vaRen :=
  { mixed := by kernel_rfl
    f196 := Tryd.func11.trans (congrArg some (by kernel_rfl))
    f259 := Tryd.func25.trans (congrArg some (by kernel_rfl))
    t0 := Tryd.underlying0
    a0 := Tryd.isAgg0
    z0 := Tryd.sizeOf0
    v0 := Tryd.zeroValue0
    t3 := Tryd.underlying3
    a3 := Tryd.isAgg3
    z3 := Tryd.sizeOf3
    v3 := Tryd.zeroValue3
    t4 := Tryd.underlying4
    a4 := Tryd.isAgg4
    z4 := Tryd.sizeOf4
    v4 := Tryd.zeroValue4
    t5 := Tryd.underlying5
    a5 := Tryd.isAgg5
    z5 := Tryd.sizeOf5
    v5 := Tryd.zeroValue5
    t9 := Tryd.underlying9
    a9 := Tryd.isAgg9
    z9 := Tryd.sizeOf9
    v9 := Tryd.zeroValue9
    t12 := Tryd.underlying12
    a12 := Tryd.isAgg12
    z12 := Tryd.sizeOf12
    v12 := Tryd.zeroValue12
    t46 := Tryd.underlying55
    a46 := Tryd.isAgg55
    z46 := Tryd.sizeOf55
    v46 := Tryd.zeroValue55
    t53 := Tryd.underlying30
    a53 := Tryd.isAgg30
    z53 := Tryd.sizeOf30
    v53 := Tryd.zeroValue30
    t119 := Tryd.underlying59
    a119 := Tryd.isAgg59
    z119 := Tryd.sizeOf59
    t138 := Tryd.underlying61
    a138 := Tryd.isAgg61
    z138 := Tryd.sizeOf61
    v138 := Tryd.zeroValue61
    t139 := Tryd.underlying62
    a139 := Tryd.isAgg62
    z139 := Tryd.sizeOf62
    v139 := Tryd.zeroValue62
    g3 := by kernel_rfl
    g4 := by kernel_rfl }
/-- What ValidString looks at: two tables, as they are laid. -/
def Tabs (w : World) : Prop := Lib.Utf8Tabs (vaRen.g 3) (vaRen.g 4) w
theorem Tabs.on {w w1 : World} (h : Tabs w) (hb : Below w.heap.size w w1) : Tabs w1 := Utf8Tabs_below h hb
theorem valid_any (s : ByteArray) (w : World) (hs : s.size ≤ 9223372036854775807) (hT : Tabs w) :
    Calls Tryd.prog 11 #[.string s] w fun e w' => e = .returned (.bool (Lib.validD s.data.toList)) ∧ Below w.heap.size w w' := Any.utf8_ValidString vaLays s w hs hT
end Go.Proofs.YtdldblfklalaeaaDoor
