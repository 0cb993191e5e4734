/-
  The steps of a row of things with commas between: plain. For headStyle.tree's loop.
-/
import Derived.Test.YtgldcjmdjhghpaaGreatDoorKp
namespace Go.Proofs.YtgldcjmdjhghpaaGreatDoor
open Go.RowKit Go.Proofs.YtgldcjmdjhghpaaGreatDoorW.PrintWords Go.ChangeShapes Go.WideShapes
set_option linter.unusedVariables false
set_option linter.unusedSimpArgs false
set_option maxRecDepth 100000
/-- The comma ahead of the i-th thing, and the blanks behind it. -/
noncomputable def cmF (i y : Nat) : Bs × Nat := if i = 0 then ([], y) else (44 :: (blk y).1, (blk y).2)
theorem cmF_len (i y : Nat) : (cmF i y).1.length ≤ 65538 := by
  unfold cmF
  split
  · simp
  · have := blk_len y
    simp only [List.length_cons]
    omega
theorem cmF_lt (i y : Nat) (hy : y < 18446744073709551616) : (cmF i y).2 < 18446744073709551616 := by
  unfold cmF
  split
  · exact hy
  · exact blk_lt _ hy
theorem seqF_cm {α : Type} (one : α → Nat → Bs × Nat) (i : Nat) (f : α) (r : List α) (y : Nat) :
    seqF one (decide (i = 0)) (f :: r) y = ((cmF i y).1 ++ ((one f (cmF i y).2).1 ++ (seqF one false r (one f (cmF i y).2).2).1), (seqF one false r (one f (cmF i y).2).2).2) := by
  unfold cmF
  by_cases h0 : i = 0
  · rw [decide_eq_true h0, if_pos h0]; rfl
  · rw [decide_eq_false h0, if_neg h0]; rfl
theorem seqF_nil {α : Type} (one : α → Nat → Bs × Nat) (b : Bool) (y : Nat) : seqF one b [] y = ([], y) := by cases b <;> rfl
/-- Where the writing of a node's kids stands: items, each by one; what stands behind them; the whole. -/
structure SeqRel {α : Type} (one : α → Nat → Bs × Nat) (l : List α) (e : UInt8) (T : Bs × Nat) (W : World) (g : Nat) (s6 s36 : Value) (wr : World) : Prop where
  out : ∃ (i y : Nat) (acc : Bs), s36 = .int .i64 (i : Int) ∧ i ≤ l.length ∧ s6 = .string (bStr acc) ∧ acc ++ ((seqF one (decide (i = 0)) (l.drop i) y).1 ++ [e]) = T.1 ∧ (seqF one (decide (i = 0)) (l.drop i) y).2 = T.2 ∧ y < 18446744073709551616 ∧ Sty W g y wr
/-- One thing more has been written. -/
theorem SeqRel.step {α : Type} {one : α → Nat → Bs × Nat} {l : List α} {e : UInt8} {T : Bs × Nat} {W : World} {g i y : Nat} {acc : Bs} (hi : i < l.length) (h1 : acc ++ ((seqF one (decide (i = 0)) (l.drop i) y).1 ++ [e]) = T.1) (h2 : (seqF one (decide (i = 0)) (l.drop i) y).2 = T.2)
    (hl : (one l[i] (cmF i y).2).2 < 18446744073709551616) {wz : World} (hS : Sty W g (one l[i] (cmF i y).2).2 wz) {v : Value} (hv : v = .string (bStr (acc ++ ((cmF i y).1 ++ (one l[i] (cmF i y).2).1)))) : SeqRel one l e T W g v (.int .i64 ((i + 1 : Nat) : Int)) wz := by
  rw [List.drop_eq_getElem_cons hi, seqF_cm] at h1 h2
  refine ⟨i + 1, _, _, rfl, hi, hv, ?_, ?_, hl, hS⟩
  · rw [← h1, decide_eq_false (by omega : ¬ i + 1 = 0)]
    simp only [List.append_assoc]
  · rw [← h2, decide_eq_false (by omega : ¬ i + 1 = 0)]
theorem SeqRel.len {α : Type} {one : α → Nat → Bs × Nat} {l : List α} {e : UInt8} {T : Bs × Nat} {i y N : Nat} {acc : Bs} (hi : i < l.length) (h1 : acc ++ ((seqF one (decide (i = 0)) (l.drop i) y).1 ++ [e]) = T.1) (hl : T.1.length ≤ N) : (one l[i] (cmF i y).2).1.length ≤ N := by
  rw [List.drop_eq_getElem_cons hi, seqF_cm] at h1
  have := congrArg List.length h1
  simp only [List.length_append] at this
  omega
theorem KidIs.on {w w' : World} {ad : Addr} {j k : Nat} {f : TrN k} {A : Option Addr} {c : Nat} {B : Option Addr} {m d : Nat} (h : KidIs w ad j f A c B m d) (hb : Below w.heap.size w w') : KidIs w' ad j f A c B m d :=
  ⟨h.at_.on hb, (hb.cell (cell_lt h.e0)).trans h.e0, (hb.cell (cell_lt h.e1)).trans h.e1, (hb.cell (cell_lt h.e2)).trans h.e2, (hb.cell (cell_lt h.e3)).trans h.e3, (hb.cell (cell_lt h.e4)).trans h.e4, (hb.cell (cell_lt h.e5)).trans h.e5, (hb.cell (cell_lt h.e6)).trans h.e6⟩
end Go.Proofs.YtgldcjmdjhghpaaGreatDoor
