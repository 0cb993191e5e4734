/-
  What is joined has three segments. No program in sight but the spellings.
-/
import Derived.Test.YtdldblfklalaeaaGreatDoorJw
import Derived.Test.YtdldblfklalaeaaGreatDoorSc
import Derived.Test.YtdldblfklalaeaaGreatDoorSplitI
namespace Go.Proofs.YtdldblfklalaeaaGreatDoor
open Go.RowKit Go.Proofs.YtdldblfklalaeaaGreatDoorW.PrintWords Go.Lib
set_option linter.unusedVariables false
set_option linter.unusedSimpArgs false
def noDot (a : List UInt8) : Prop := ∀ x ∈ a, x ≠ 46
theorem dotAt_app {a r : List UInt8} (h : noDot a) : dotAt (a ++ 46 :: r) = some a.length := by
  unfold dotAt
  rw [List.findIdx?_eq_some_iff_getElem]
  refine ⟨by simp, by simp, fun j hj => ?_⟩
  rw [List.getElem_append_left hj]
  simpa using h _ (List.getElem_mem hj)
theorem segs_app {a r : List UInt8} (h : noDot a) : segsL (a ++ 46 :: r) = a :: segsL r := by
  rw [segsL_some (dotAt_app h)]
  congr 1
  · simp
  · congr 1
    rw [List.drop_append]
    simp
theorem segs_one {a : List UInt8} (h : noDot a) : segsL a = [a] := segsL_none (by
  unfold dotAt
  rw [List.findIdx?_eq_none_iff]
  intro x hx
  simpa using h x hx)
theorem noDot_b64 (url : Bool) (xs : List UInt8) : noDot (b64 url xs) := by
  intro x hx e
  have := b64_isL url xs x hx
  rw [e] at this
  have h46 : isL url 46 = false := by cases url <;> decide +kernel
  rw [h46] at this
  cases this
theorem noDot_of_segs {ys : List UInt8} (h : (segsL ys).length ≤ 1) : noDot ys := by
  cases hd : dotAt ys with
  | none =>
    unfold dotAt at hd
    rw [List.findIdx?_eq_none_iff] at hd
    intro x hx
    simpa using hd x hx
  | some i =>
    rw [segsL_some hd] at h
    have := segsL_ne (ys.drop (i + 1))
    simp only [List.length_cons] at h
    omega
theorem joined_segs (xs ys zs : List UInt8) (enc : Bool) (h : enc = false → (segsL ys).length ≤ 1) : segsL (joined xs ys zs enc) = [b64 true xs, if enc then b64 true ys else ys, b64 true zs] := by
  have hm : noDot (if enc then b64 true ys else ys) := by
    cases enc with
    | true => exact noDot_b64 true ys
    | false => exact noDot_of_segs (h rfl)
  have e : joined xs ys zs enc = b64 true xs ++ 46 :: ((if enc then b64 true ys else ys) ++ 46 :: b64 true zs) := by
    unfold joined sign
    simp
  rw [e, segs_app (noDot_b64 true xs), segs_app hm, segs_one (noDot_b64 true zs)]
theorem SegHold.len {w wr : World} {v : Value} {xs : List UInt8} (h : SegHold w wr v (segFold xs)) : ∃ (A : Option Addr) (n c : Nat), v = .slice A n c ∧ n = (segsL xs).length ∧ n ≤ c ∧ Below w.heap.size w wr := by
  obtain ⟨s, ss, hl, H⟩ := h
  obtain ⟨A, c, hv, hc, _⟩ := H.reads 0 rfl
  refine ⟨A, _, c, hv, ?_, hc, H.below⟩
  unfold segsL
  simp only [List.length_append, List.length_reverse, List.length_singleton]
  rw [hl]
end Go.Proofs.YtdldblfklalaeaaGreatDoor
