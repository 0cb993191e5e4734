/-
  The names of the algorithms, as a table; what the registry's map holds.
-/
import Derived.Test.YticoiglamachfaaDoorMap
namespace Go.Proofs.YticoiglamachfaaDoor
open Go.RowKit Go.Proofs.YticoiglamachfaaDoorW.PrintWords Go.Lib
set_option linter.unusedVariables false
set_option linter.unusedSimpArgs false
def tabC : List (ByteArray × Bool × Bool) := [(⟨#[65, 49, 50, 56, 67, 66, 67, 45, 72, 83, 50, 53, 54]⟩, false, false), (⟨#[65, 49, 50, 56, 71, 67, 77]⟩, false, false), (⟨#[65, 49, 57, 50, 67, 66, 67, 45, 72, 83, 51, 56, 52]⟩, false, false), (⟨#[65, 49, 57, 50, 71, 67, 77]⟩, false, false), (⟨#[65, 50, 53, 54, 67, 66, 67, 45, 72, 83, 53, 49, 50]⟩, false, false), (⟨#[65, 50, 53, 54, 71, 67, 77]⟩, false, false)]
def tabK : List (ByteArray × Bool × Bool) := [(⟨#[65, 49, 50, 56, 71, 67, 77, 75, 87]⟩, false, true), (⟨#[65, 49, 50, 56, 75, 87]⟩, false, true), (⟨#[65, 49, 57, 50, 71, 67, 77, 75, 87]⟩, false, true), (⟨#[65, 49, 57, 50, 75, 87]⟩, false, true), (⟨#[65, 50, 53, 54, 71, 67, 77, 75, 87]⟩, false, true), (⟨#[65, 50, 53, 54, 75, 87]⟩, false, true), (⟨#[100, 105, 114]⟩, false, true), (⟨#[69, 67, 68, 72, 45, 69, 83]⟩, false, false), (⟨#[69, 67, 68, 72, 45, 69, 83, 43, 65, 49, 50, 56, 75, 87]⟩, false, false), (⟨#[69, 67, 68, 72, 45, 69, 83, 43, 65, 49, 57, 50, 75, 87]⟩, false, false), (⟨#[69, 67, 68, 72, 45, 69, 83, 43, 65, 50, 53, 54, 75, 87]⟩, false, false), (⟨#[80, 66, 69, 83, 50, 45, 72, 83, 50, 53, 54, 43, 65, 49, 50, 56, 75, 87]⟩, false, true), (⟨#[80, 66, 69, 83, 50, 45, 72, 83, 51, 56, 52, 43, 65, 49, 57, 50, 75, 87]⟩, false, true), (⟨#[80, 66, 69, 83, 50, 45, 72, 83, 53, 49, 50, 43, 65, 50, 53, 54, 75, 87]⟩, false, true), (⟨#[82, 83, 65, 49, 95, 53]⟩, true, false), (⟨#[82, 83, 65, 45, 79, 65, 69, 80]⟩, false, false), (⟨#[82, 83, 65, 45, 79, 65, 69, 80, 45, 50, 53, 54]⟩, false, false), (⟨#[82, 83, 65, 45, 79, 65, 69, 80, 45, 51, 56, 52]⟩, false, false), (⟨#[82, 83, 65, 45, 79, 65, 69, 80, 45, 53, 49, 50]⟩, false, false)]
def tabS : List (ByteArray × Bool × Bool) := [(⟨#[69, 83, 50, 53, 54]⟩, false, false), (⟨#[69, 83, 50, 53, 54, 75]⟩, false, false), (⟨#[69, 83, 51, 56, 52]⟩, false, false), (⟨#[69, 83, 53, 49, 50]⟩, false, false), (⟨#[69, 100, 68, 83, 65]⟩, true, false), (⟨#[69, 100, 50, 53, 53, 49, 57]⟩, false, false), (⟨#[72, 83, 50, 53, 54]⟩, false, true), (⟨#[72, 83, 51, 56, 52]⟩, false, true), (⟨#[72, 83, 53, 49, 50]⟩, false, true), (⟨#[110, 111, 110, 101]⟩, false, false), (⟨#[80, 83, 50, 53, 54]⟩, false, false), (⟨#[80, 83, 51, 56, 52]⟩, false, false), (⟨#[80, 83, 53, 49, 50]⟩, false, false), (⟨#[82, 83, 50, 53, 54]⟩, false, false), (⟨#[82, 83, 51, 56, 52]⟩, false, false), (⟨#[82, 83, 53, 49, 50]⟩, false, false)]
def enc2 (e : ByteArray × Bool × Bool) : List Value := [.string e.1, .bool e.2.1]
def enc3 (e : ByteArray × Bool × Bool) : List Value := [.string e.1, .bool e.2.1, .bool e.2.2]
def algC (e : ByteArray × Bool × Bool) : Value := .iface 39 (.agg #[.string e.1, .bool e.2.1])
def algK (e : ByteArray × Bool × Bool) : Value := .iface 37 (.agg #[.string e.1, .bool e.2.1, .bool e.2.2])
def algS (e : ByteArray × Bool × Bool) : Value := .iface 35 (.agg #[.string e.1, .bool e.2.1, .bool e.2.2])
def entC (e : ByteArray × Bool × Bool) : ByteArray × Value := (e.1, .agg #[.int .u8 3, algC e, .bool true])
def entK (e : ByteArray × Bool × Bool) : ByteArray × Value := (e.1, .agg #[.int .u8 2, algK e, .bool true])
def entS (e : ByteArray × Bool × Bool) : ByteArray × Value := (e.1, .agg #[.int .u8 1, algS e, .bool true])
def allE : List (ByteArray × Value) := tabC.map entC ++ tabK.map entK ++ tabS.map entS
def regD : DataW Value := putAll (.map []) allE
theorem allE_names : allE.map (·.1) = tabC.map (·.1) ++ tabK.map (·.1) ++ tabS.map (·.1) := by
  unfold allE
  simp only [List.map_append, List.map_map]
  rfl
theorem names_apart : (tabC.map (·.1) ++ tabK.map (·.1) ++ tabS.map (·.1)).Nodup := by decide +kernel
theorem reg_hit (e : ByteArray × Value) (he : e ∈ allE) (z : DataW Value) : regD.atKey (kS e.1) z = .held e.2 ∧ Maps.has regD (kS e.1) = true :=
  putAll_hit z allE _ Maps.isMap_empty (by rw [allE_names]; exact names_apart) e he
theorem reg_miss (s : ByteArray) (h : s ∉ allE.map (·.1)) (z : DataW Value) : regD.atKey (kS s) z = z ∧ Maps.has regD (kS s) = false := by
  have := putAll_miss s z allE (.map []) (fun e he hs => h (by rw [← hs]; exact List.mem_map_of_mem he))
  unfold regD
  rw [this.1, this.2]
  exact ⟨rfl, rfl⟩
theorem flat2_get (l : List (ByteArray × Bool × Bool)) (k : Nat) (e : ByteArray × Bool × Bool) (h : l[k]? = some e) : (l.flatMap enc2).toArray[k * 2]? = some (.string e.1) ∧ (l.flatMap enc2).toArray[k * 2 + 1]? = some (.bool e.2.1) := by
  rw [List.getElem?_toArray, List.getElem?_toArray]
  induction l generalizing k with
  | nil => simp at h
  | cons x r ih =>
    cases k with
    | zero =>
      obtain rfl : x = e := by simpa using h
      exact ⟨rfl, rfl⟩
    | succ k =>
      have := ih k (by simpa using h)
      rw [List.flatMap_cons, show (k + 1) * 2 = k * 2 + 2 by omega]
      exact this
theorem flat3_get (l : List (ByteArray × Bool × Bool)) (k : Nat) (e : ByteArray × Bool × Bool) (h : l[k]? = some e) : (l.flatMap enc3).toArray[k * 3]? = some (.string e.1) ∧ (l.flatMap enc3).toArray[k * 3 + 1]? = some (.bool e.2.1) ∧ (l.flatMap enc3).toArray[k * 3 + 2]? = some (.bool e.2.2) := by
  rw [List.getElem?_toArray, List.getElem?_toArray, List.getElem?_toArray]
  induction l generalizing k with
  | nil => simp at h
  | cons x r ih =>
    cases k with
    | zero =>
      obtain rfl : x = e := by simpa using h
      exact ⟨rfl, rfl, rfl⟩
    | succ k =>
      have := ih k (by simpa using h)
      rw [List.flatMap_cons, show (k + 1) * 3 = k * 3 + 3 by omega]
      exact this
end Go.Proofs.YticoiglamachfaaDoor
