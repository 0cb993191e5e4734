/-
  Words of this session: a zero value of a wide type as a block; copy from a text into a block. No program in sight.
-/
import Derived.Test.YtlncbbmmlhammaaDoorOps
import Derived.Lib.BufferWrite
namespace Go.Proofs.YtlncbbmmlhammaaDoor
open Go.RowKit Go.Proofs.YtlncbbmmlhammaaDoorW.PrintWords Go.Lib
set_option linter.unusedVariables false
section
variable {P : Program} {ops : Array Oper} {rest : List Oper} {o : Oper} {a : Act} {Q : Exit → Act → World → Prop} {w0 W : World} {B : Nat} {L : List Asrt}
/-- new(T), of a wide type: its cells by name. -/
theorem Hold.allocZ (hS : Hold w0 B W L) (hgd : o.guard = none) {N : Tmp} (hd : o.dst = some N) (t : TypeId) (ho : o.op = .alloc t) (z : Value) (cs : Array Value) (hz : (P.info? t).map (·.zero) = some (some z)) (hcs : z.cells = cs)
    (h : ∀ w1, Hold w0 B w1 (.blk W.heap.size (.cells cs t (0, 0)) :: L) → W.heap.size < w1.heap.size → wpList P ops Q rest (a.put o.dst (.pointer (some ⟨W.heap.size, 0, none⟩))) w1) : wpList P ops Q (o :: rest) a W := by
  subst hcs
  refine wpList_plain hgd fun K hK => ?_
  unfold Oper.wp execOp
  cases hi : P.info? t with
  | none => simp [hi] at hz
  | some i =>
    have hz' : i.zero = some z := by simpa [hi] using hz
    simp [ho, Instr.alloc, zeroValue, typeInfo, hi, hz', newVar]
    exact hK _ _ (h _ (hS.alloc _) (by simp))
/-- copy(dst, s), dst a part of a block. -/
theorem Hold.copyStr (i : Nat) (hS : Hold w0 B W L) {g t : Nat} {cs : Array Value} (hi : L[i]? = some (.blk g (.cells cs t (0, 0)))) (hgd : o.guard = none) (d s : Operand) (dT sT e : TypeId)
    (ho : o.op = .call { callee := .builtin .copy, args := #[d, s], argTypes := #[dT, sT] }) (hu : P.underlying dT = some (.slice e)) (hsz : (P.info? e).map (·.size) = some 1)
    (off dLen dCap : Nat) (b : ByteArray) (hd : a.eval d = .slice (some ⟨g, off, none⟩) dLen dCap) (hs : a.eval s = .string b) (hle : b.size ≤ dLen) (hfit : off + b.size ≤ cs.size)
    (cs' : Array Value) (hcs : (cs.toList.take off ++ byteCells b.data.toList ++ cs.toList.drop (off + b.size)).toArray = cs')
    (h : ∀ w1, Hold w0 B w1 (L.set i (.blk g (.cells cs' t (0, 0)))) → w1.heap.size = W.heap.size → wpList P ops Q rest (a.put o.dst (goInt b.size)) w1) : wpList P ops Q (o :: rest) a W := by
  subst hcs
  refine wpList_plain hgd fun K hK => ?_
  unfold Oper.wp execOp
  simp only [ho, resolve, invoke, builtin, Sem.run_bind, Sem.run_pure, Result.andThen_ok, List.map_toArray, List.map_cons, List.map_nil, hd, hs]
  rw [run_copy_row_string W dT sT o.type e g off dLen dCap b cs t hu hsz (hS.blk i hi) hle hfit]
  exact hK _ _ (h _ (hS.setRow i hi) (by simp [World.setRow]))
end
end Go.Proofs.YtlncbbmmlhammaaDoor
