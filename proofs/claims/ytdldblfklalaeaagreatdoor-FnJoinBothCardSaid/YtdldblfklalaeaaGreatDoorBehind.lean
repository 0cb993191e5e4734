/-
  Append as a step of a region that draws, over Hold (the Door seat's part of Behind).
-/
import Derived.Test.YtdldblfklalaeaaGreatDoorAppEnc
import Derived.Deep.RegionLaw
namespace Go.Proofs.YtdldblfklalaeaaGreatDoor
open Go.RowKit Go.Proofs.YtdldblfklalaeaaGreatDoorW.PrintWords Go.Lib
set_option linter.unusedVariables false
set_option linter.unusedSimpArgs false
/-- What a row that is written out bears. -/
theorem Hold.Cat {α : Type} {d : Kd α} {w0 w : World} {B : Nat} {L : List Asrt} {e n c : Nat} {A : Option Addr} {xs : List α} (hS : Hold w0 B w L) (i : Nat) (hi : L[i]? = some (.row d e (.slice A n c) xs)) : d.C w A n xs := by
  obtain ⟨A', c', he, _, hC⟩ := hS.reads i hi
  injection he with h1 h2 h3
  subst h1 h2 h3
  exact hC
section
variable {P : Program} {ops : Array Oper} {o : Oper} {a : Act} {Q : Exit → Act → World → Prop} {Kc : Act → World → Prop} {w0 W : World} {B : Nat} {L : List Asrt}
/-- Is the operation that comes up this append? (For an arm: with_reducible refine stepAppend .. rfl ?_.) -/
theorem stepAppend {E : Prop} (s x : Operand) (t : TypeId) (ho : o.op = .call { callee := .builtin .append, args := #[s, x], argTypes := #[t, t] }) (h : if Region.wanted o (yielded ops a.tmps) = true then Oper.wp P o a W Kc Q else E) :
    if Region.wanted o (yielded ops a.tmps) = true then Oper.wp P o a W Kc Q else E := h
theorem Hold.appendStep {α : Type} {enc : α → Value} {h1 : ∀ x, (enc x).oneCell' = true} (i : Nat) (hS : Hold w0 B W L) {e : Nat} {v : Value} {xs ys : List α} (hi : L[i]? = some (.row (Kd.scalar enc h1) e v xs)) (hw : Region.wanted o (yielded ops a.tmps) = true) (s x : Operand) (t : TypeId) (z : Value) (bytes : Nat)
    (ho : o.op = .call { callee := .builtin .append, args := #[s, x], argTypes := #[t, t] })
    (ht : P.underlying t = some (.slice e)) (hinfo : (P.info? e).map (fun i => (i.zero, i.size, i.bytes)) = some (some z, 1, bytes)) (hz : z.cells.size = 1) (hb0 : 0 < bytes)
    (A : Option Addr) (m c : Nat) (hs : a.eval s = v) (hx : a.eval x = .slice A m c) (hC : (Kd.scalar enc h1).C W A m ys) (hl : (xs.length + m) * bytes ≤ 140737488355328)
    (h : ∀ v1 w1, Hold w0 B w1 (L.set i (.row (Kd.scalar enc h1) e v1 (xs ++ ys))) → Kc (a.put o.dst v1) w1) :
    if Region.wanted o (yielded ops a.tmps) = true then Oper.wp P o a W Kc Q else Kc (a.put o.dst undef) W := by
  obtain ⟨f, hR, hb, hk⟩ := hS.focus i hi
  refine Kd.R_append_rows_step (Kd.scalar enc h1) (w0 := W) 0 hw s x t e z bytes ho ht hinfo hz (show 0 < 1 from Nat.one_pos) hb0 v xs ys A m c (fun k => f k ∨ W.heap.size ≤ k) (fun _ => False) hs hx (Kd.R_mono hR (fun k h => .inl h)) hC (fun _ _ h => h) (fun _ h => h.elim) (fun k h => .inr h) (Below.refl _ _) (Nat.zero_le _) hl ?_
  intro v1 w1 ho1 hb1 hg hat
  exact h v1 w1 (hk w1 _ _ ho1 (fun k h => h) (Chg.of_grown hg (fun k e => hR.1 k e)))
end
end Go.Proofs.YtdldblfklalaeaaGreatDoor
