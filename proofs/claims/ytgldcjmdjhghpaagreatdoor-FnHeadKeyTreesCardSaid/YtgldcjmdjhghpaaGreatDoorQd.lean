/-
  The reader's memory: what a step may write ('Upd'), a tree of values as it lies in cells ('TreeAt'), the store of values of the reader ('Cache'). No walk.
  fastjson's getValue: its contract.
  fastjson's getKV, and the resetting of an object: their contracts.
  fastjson's Object.reset of a new object; the values true, false, null: their contracts.
  Lengths and letters that are no blanks, of what the reader leaves. No program in sight.
  The reader's state between its steps; what a value that has been read leaves. No walk.
-/
import Derived.Test.YtgldcjmdjhghpaaGreatDoorQa
import Derived.BigQuiet
import Derived.Deep.QuietTactic
import Derived.RegionTactic
import Derived.WalkKit
import Derived.Laws.Append
import Derived.Laws.AppendOwn
import Derived.Great.Walk
import Derived.Deep.DeepCutAuto
import Derived.Outline
import Derived.Test.YtgldcjmdjhghpaaGreatDoorQc
namespace Go.Proofs.YtgldcjmdjhghpaaGreatDoor
open Go.RowKit Go.Proofs.YtgldcjmdjhghpaaGreatDoorW.PrintWords
set_option linter.unusedVariables false
structure Upd (w w' : World) (C : Nat → Nat → Prop) : Prop where
  os : w'.os = w.os
  tape : w'.tape = w.tape
  output : w'.output = w.output
  size : w.heap.size ≤ w'.heap.size
  cell : ∀ b o, b < w.heap.size → ¬ C b o → w'.cell? ⟨b, o, none⟩ = w.cell? ⟨b, o, none⟩
  shp : ∀ (b o : Nat) (cs : Array Value) (t : Nat) (fr : Nat × Nat), ¬ C b o → w.heap[b]? = some (.cells cs t fr) → ∃ cs', w'.heap[b]? = some (.cells cs' t fr)
  blk : ∀ b : Nat, b < w.heap.size → (∀ o, ¬ C b o) → w'.heap[b]? = w.heap[b]?
theorem Upd.refl (w : World) (C : Nat → Nat → Prop) : Upd w w C := ⟨rfl, rfl, rfl, Nat.le_refl _, fun _ _ _ _ => rfl, fun b o cs t fr _ h => ⟨cs, h⟩, fun _ _ _ => rfl⟩
theorem Upd.trans {w w1 w2 : World} {C C1 C2 : Nat → Nat → Prop} (h : Upd w w1 C1) (k : Upd w1 w2 C2) (h1 : ∀ b o, b < w.heap.size → C1 b o → C b o) (h2 : ∀ b o, b < w.heap.size → C2 b o → C b o) : Upd w w2 C := by
  refine ⟨k.os.trans h.os, k.tape.trans h.tape, k.output.trans h.output, Nat.le_trans h.size k.size, fun b o hb hC => ?_, fun b o cs t fr hC hb => ?_, fun b hb hC => ?_⟩
  · exact (k.cell b o (Nat.lt_of_lt_of_le hb h.size) (fun hh => hC (h2 b o hb hh))).trans (h.cell b o hb (fun hh => hC (h1 b o hb hh)))
  · have hlt := (Array.getElem?_eq_some_iff.1 hb).1
    obtain ⟨cs1, e1⟩ := h.shp b o cs t fr (fun hh => hC (h1 b o hlt hh)) hb
    exact k.shp b o cs1 t fr (fun hh => hC (h2 b o hlt hh)) e1
  · exact (k.blk b (Nat.lt_of_lt_of_le hb h.size) (fun o hh => hC o (h2 b o hb hh))).trans (h.blk b hb (fun o hh => hC o (h1 b o hb hh)))
theorem Upd.weaken {w w' : World} {C C' : Nat → Nat → Prop} (h : Upd w w' C) (hC : ∀ b o, b < w.heap.size → C b o → C' b o) : Upd w w' C' := h.trans (Upd.refl w' C') hC (fun _ _ _ hh => hh)
theorem Upd.of_below {w w' : World} (h : Below w.heap.size w w') (C : Nat → Nat → Prop) : Upd w w' C := by
  refine ⟨h.os, h.tape, h.output, h.size, fun b o hb _ => h.cell (p := ⟨b, o, none⟩) hb, fun b o cs t fr _ hb => ⟨cs, ?_⟩, fun b hb _ => h.block b hb⟩
  rw [h.block b (Array.getElem?_eq_some_iff.1 hb).1]
  exact hb
theorem Upd.setCell (w : World) (b o : Nat) (v : Value) {C : Nat → Nat → Prop} (hC : C b o) : Upd w (w.setCell ⟨b, o, none⟩ v) C := by
  refine ⟨rfl, rfl, rfl, by simp [World.setCell], fun b' o' hb hn => ?_, fun b' o' cs t fr _ hb => ?_, fun b' hb hn => ?_⟩
  · exact World.cell?_setCell_other w ⟨b, o, none⟩ ⟨b', o', none⟩ v (fun e => hn (by injection e with e1 e2; rw [← e1, ← e2]; exact hC))
  · by_cases e : b = b'
    · subst e
      refine ⟨cs.setIfInBounds o v, ?_⟩
      simp only [World.setCell, Array.getElem?_modify, if_true, hb, Option.map_some]
      rfl
    · refine ⟨cs, ?_⟩
      rw [Below.heap_setCell w ⟨b, o, none⟩ v b' (fun h => e h.symm)]
      exact hb
  · exact Below.heap_setCell w ⟨b, o, none⟩ v b' (fun h => hn o (by rw [h]; exact hC))
theorem Upd.alloc (w : World) (ob : Obj) (C : Nat → Nat → Prop) : Upd w (w.alloc ob) C := Upd.of_below ((Below.refl _ _).alloc (Nat.le_refl _) _) C
theorem Upd.drew (w : World) (C : Nat → Nat → Prop) : Upd w w.drew C := Upd.of_below (Below.refl _ _).drew C
theorem Upd.drewN (w : World) (n : Nat) (C : Nat → Nat → Prop) : Upd w (w.drewN n) C := Upd.of_below ((Hold.start w).drewN n).below C
theorem Upd.below {w w' : World} {C : Nat → Nat → Prop} (h : Upd w w' C) (B : Nat) (hB : B ≤ w.heap.size) (hC : ∀ b o, b < B → ¬ C b o) : Below B w w' :=
  ⟨h.os, h.tape, h.output, h.size, fun b hb => h.blk b (Nat.lt_of_lt_of_le hb hB) (fun o => hC b o hb)⟩
/-- Of what type a block's cells are. -/
def blkT (w : World) (b T : Nat) : Prop := ∃ cs, w.heap[b]? = some (.cells cs T)
theorem Upd.blkT {w w' : World} {C : Nat → Nat → Prop} (h : Upd w w' C) {b T : Nat} (o : Nat) (hn : ¬ C b o) (hb : blkT w b T) : blkT w' b T := by
  obtain ⟨cs, e⟩ := hb
  obtain ⟨cs', e'⟩ := h.shp b o cs T (0, 0) hn e
  exact ⟨cs', e'⟩
theorem blkT_lt {w : World} {b T : Nat} (hb : blkT w b T) : b < w.heap.size := by
  obtain ⟨cs, e⟩ := hb
  exact (Array.getElem?_eq_some_iff.1 e).1
theorem blkT_uniq {w : World} {b T T' : Nat} (h : blkT w b T) (h' : blkT w b T') : T = T' := by
  obtain ⟨cs, e⟩ := h
  obtain ⟨cs', e'⟩ := h'
  rw [e] at e'
  injection e' with e'
  injection e' with _ e'
theorem blkT_frozen {w : World} {b T : Nat} (hb : blkT w b T) (o : Nat) : w.frozen? ⟨b, o, none⟩ = false := by
  obtain ⟨cs, e⟩ := hb
  simp [World.frozen?, e]
abbrev CellSet := Nat → Nat → Prop
/-- The cells of a value. -/
structure ValB (w : World) (S : CellSet) (b o : Nat) : Prop where
  ty : blkT w b 106
  al : o % 5 = 0
  cells : ∀ j, j < 5 → S b (o + j)
def ptr (q : Nat × Nat) : Value := .pointer (some ⟨q.1, q.2, none⟩)
/-- A tree of values, as it lies in the cells of S. -/
inductive TreeAt (w : World) (S : CellSet) : Nat → Nat → JV → Prop
  | str {b o : Nat} {raw : Bs} (hv : ValB w S b o) (h3 : w.cell? ⟨b, o + 3, none⟩ = some (.string (bStr raw))) (h4 : w.cell? ⟨b, o + 4, none⟩ = some (.int .i64 7)) : TreeAt w S b o (.str raw)
  | num {b o : Nat} {s : Bs} (hv : ValB w S b o) (h3 : w.cell? ⟨b, o + 3, none⟩ = some (.string (bStr s))) (h4 : w.cell? ⟨b, o + 4, none⟩ = some (.int .i64 4)) : TreeAt w S b o (.num s)
  | tru {b o : Nat} (hv : ValB w S b o) (h4 : w.cell? ⟨b, o + 4, none⟩ = some (.int .i64 5)) : TreeAt w S b o .tru
  | fls {b o : Nat} (hv : ValB w S b o) (h4 : w.cell? ⟨b, o + 4, none⟩ = some (.int .i64 6)) : TreeAt w S b o .fls
  | nul {b o : Nat} (hv : ValB w S b o) (h4 : w.cell? ⟨b, o + 4, none⟩ = some (.int .i64 0)) : TreeAt w S b o .nul
  | arr {b o : Nat} {A : Option Addr} {c : Nat} {ps : List (Nat × Nat)} {xs : List JV} (hv : ValB w S b o) (h4 : w.cell? ⟨b, o + 4, none⟩ = some (.int .i64 2)) (h2 : w.cell? ⟨b, o + 2, none⟩ = some (.slice A xs.length c)) (hl : ps.length = xs.length) (hc : xs.length ≤ c) (hm : c ≤ maxLen)
      (hA : 0 < xs.length → ∃ g, A = some ⟨g, 0, none⟩ ∧ blkT w g 74 ∧ ∀ i q, ps[i]? = some q → S g i ∧ w.cell? ⟨g, i, none⟩ = some (ptr q)) (hk : ∀ (i : Nat) (q : Nat × Nat) (x : JV), ps[i]? = some q → xs[i]? = some x → TreeAt w S q.1 q.2 x) : TreeAt w S b o (.arr xs)
  | obj {b o : Nat} {A : Option Addr} {c : Nat} {ps : List (Nat × Nat)} {kvs : List (Bs × JV)} (hv : ValB w S b o) (h4 : w.cell? ⟨b, o + 4, none⟩ = some (.int .i64 1)) (h0 : w.cell? ⟨b, o, none⟩ = some (.slice A kvs.length c)) (h1 : w.cell? ⟨b, o + 1, none⟩ = some (.bool false)) (hl : ps.length = kvs.length) (hc : kvs.length ≤ c) (hm : c ≤ maxLen)
      (hA : 0 < kvs.length → ∃ g, A = some ⟨g, 0, none⟩ ∧ blkT w g 125 ∧ (∀ i q, ps[i]? = some q → S g (2 * i + 1) ∧ w.cell? ⟨g, 2 * i + 1, none⟩ = some (ptr q)) ∧ ∀ (i : Nat) (p : Bs × JV), kvs[i]? = some p → S g (2 * i) ∧ w.cell? ⟨g, 2 * i, none⟩ = some (.string (bStr p.1))) (hk : ∀ (i : Nat) (q : Nat × Nat) (p : Bs × JV), ps[i]? = some q → kvs[i]? = some p → TreeAt w S q.1 q.2 p.2) : TreeAt w S b o (.obj kvs)
theorem ValB.mono {w w' : World} {S S' : CellSet} {b o : Nat} (h : ValB w S b o) (hS : ∀ b o, S b o → S' b o) (hT : ∀ b o T, S b o → blkT w b T → blkT w' b T) : ValB w' S' b o := ⟨hT _ _ _ (h.cells 0 (by omega)) h.ty, h.al, fun j hj => hS _ _ (h.cells j hj)⟩
theorem ValB.at0 {w : World} {S : CellSet} {b o : Nat} (h : ValB w S b o) : S b o := h.cells 0 (by omega)
theorem TreeAt.mono {w w' : World} {S S' : CellSet} (hS : ∀ b o, S b o → S' b o) (hc : ∀ b o, S b o → w'.cell? ⟨b, o, none⟩ = w.cell? ⟨b, o, none⟩) (hT : ∀ b o T, S b o → blkT w b T → blkT w' b T) {b o : Nat} {x : JV} (h : TreeAt w S b o x) : TreeAt w' S' b o x := by
  induction h with
  | str hv h3 h4 => exact .str (hv.mono hS hT) ((hc _ _ (hv.cells 3 (by omega))).trans h3) ((hc _ _ (hv.cells 4 (by omega))).trans h4)
  | num hv h3 h4 => exact .num (hv.mono hS hT) ((hc _ _ (hv.cells 3 (by omega))).trans h3) ((hc _ _ (hv.cells 4 (by omega))).trans h4)
  | tru hv h4 => exact .tru (hv.mono hS hT) ((hc _ _ (hv.cells 4 (by omega))).trans h4)
  | fls hv h4 => exact .fls (hv.mono hS hT) ((hc _ _ (hv.cells 4 (by omega))).trans h4)
  | nul hv h4 => exact .nul (hv.mono hS hT) ((hc _ _ (hv.cells 4 (by omega))).trans h4)
  | @arr b o A c ps xs hv h4 h2 hl hcc hm hA hk ih =>
    refine .arr (hv.mono hS hT) ((hc _ _ (hv.cells 4 (by omega))).trans h4) ((hc _ _ (hv.cells 2 (by omega))).trans h2) hl hcc hm (fun hn => ?_) ih
    obtain ⟨g, e, hg, hp⟩ := hA hn
    have hp0 : 0 < ps.length := by rw [hl]; exact hn
    exact ⟨g, e, hT _ _ _ (hp 0 _ (List.getElem?_eq_getElem hp0)).1 hg, fun i q hq => ⟨hS _ _ (hp i q hq).1, (hc _ _ (hp i q hq).1).trans (hp i q hq).2⟩⟩
  | @obj b o A c ps kvs hv h4 h0 h1 hl hcc hm hA hk ih =>
    refine .obj (hv.mono hS hT) ((hc _ _ (hv.cells 4 (by omega))).trans h4) ((hc _ _ hv.at0).trans h0) ((hc _ _ (hv.cells 1 (by omega))).trans h1) hl hcc hm (fun hn => ?_) ih
    obtain ⟨g, e, hg, hp, hs⟩ := hA hn
    have hp0 : 0 < ps.length := by rw [hl]; exact hn
    exact ⟨g, e, hT _ _ _ (hp 0 _ (List.getElem?_eq_getElem hp0)).1 hg, fun i q hq => ⟨hS _ _ (hp i q hq).1, (hc _ _ (hp i q hq).1).trans (hp i q hq).2⟩, fun i p hq => ⟨hS _ _ (hs i p hq).1, (hc _ _ (hs i p hq).1).trans (hs i p hq).2⟩⟩
theorem TreeAt.upd {w w' : World} {S : CellSet} {C : CellSet} (h : Upd w w' C) (hlt : ∀ b o, S b o → b < w.heap.size) (hd : ∀ b o, S b o → ¬ C b o) {b o : Nat} {x : JV} (ht : TreeAt w S b o x) : TreeAt w' S b o x :=
  ht.mono (fun _ _ h => h) (fun b o hS => h.cell b o (hlt b o hS) (hd b o hS)) (fun b o T hS hb => h.blkT o (hd b o hS) hb)
/-- The reader's store of values: its block, how many are in use, how many there is room for. -/
def vsV (vb : Option Nat) (n c : Nat) : Value := .slice (vb.map fun g => ⟨g, 0, none⟩) n c
def z5 : List Value := [.slice none 0 0, .bool false, .slice none 0 0, .string ByteArray.empty, .int .i64 0]
structure Cache (w : World) (pb : Nat) (vb : Option Nat) (n c : Nat) : Prop where
  ty : blkT w pb 83
  vs : w.cell? ⟨pb, 1, none⟩ = some (vsV vb n c)
  fr : w.frozen? ⟨pb, 1, none⟩ = false
  le : n ≤ c
  cm : c ≤ maxLen
  no : vb = none → n = 0 ∧ c = 0
  sp : ∀ g, vb = some g → ∃ cs, w.heap[g]? = some (.cells cs 106) ∧ cs.size = 5 * c ∧ ∀ k, n ≤ k → k < c → ∀ j, j < 5 → cs[5 * k + j]? = z5[j]?
/-- What a step of the reader may write. -/
def Writes (pb : Nat) (vb : Option Nat) (n : Nat) : CellSet := fun b o => (b = pb ∧ o = 1) ∨ (vb = some b ∧ 5 * n ≤ o)
/-- The store has grown. -/
def Grew (w : World) (vb : Option Nat) (n : Nat) (vb' : Option Nat) (n' : Nat) : Prop := (vb' = vb ∧ n ≤ n') ∨ ∃ g, vb' = some g ∧ w.heap.size ≤ g
theorem Grew.writes {w : World} {pb : Nat} {vb vb' : Option Nat} {n n' : Nat} (h : Grew w vb n vb' n') {b o : Nat} (hb : b < w.heap.size) (hw : Writes pb vb' n' b o) : Writes pb vb n b o := by
  rcases hw with hw | ⟨h1, h2⟩
  · exact .inl hw
  · rcases h with ⟨e, hn⟩ | ⟨g, e, hg⟩
    · exact .inr ⟨e ▸ h1, by omega⟩
    · rw [e] at h1
      injection h1 with h1
      omega
theorem Grew.refl (w : World) (vb : Option Nat) (n : Nat) : Grew w vb n vb n := .inl ⟨rfl, Nat.le_refl _⟩
theorem Grew.trans {w w1 : World} {vb vb1 vb2 : Option Nat} {n n1 n2 : Nat} (h : Grew w vb n vb1 n1) (k : Grew w1 vb1 n1 vb2 n2) (hs : w.heap.size ≤ w1.heap.size) : Grew w vb n vb2 n2 := by
  rcases k with ⟨e, hn⟩ | ⟨g, e, hg⟩
  · rcases h with ⟨e', hn'⟩ | ⟨g', e', hg'⟩
    · exact .inl ⟨e.trans e', by omega⟩
    · exact .inr ⟨g', e.trans e', hg'⟩
  · exact .inr ⟨g, e, by omega⟩
/-- The cells that are new since a state of the reader, and in use. -/
def Fresh (w : World) (pb : Nat) (vb : Option Nat) (n : Nat) (w' : World) (vb' : Option Nat) (n' : Nat) : CellSet := fun b o => b ≠ pb ∧ b < w'.heap.size ∧ (w.heap.size ≤ b ∨ vb = some b ∧ 5 * n ≤ o) ∧ (vb' = some b → o < 5 * n')
theorem Fresh.not_writes {w w' : World} {pb : Nat} {vb vb' : Option Nat} {n n' b o : Nat} (h : Fresh w pb vb n w' vb' n' b o) : ¬ Writes pb vb' n' b o := by
  rintro (⟨h1, _⟩ | ⟨h1, h2⟩)
  · exact h.1 h1
  · have := h.2.2.2 h1
    omega
theorem Fresh.on {w w' w'' : World} {pb : Nat} {vb vb' vb'' : Option Nat} {n n' n'' b o : Nat} (h : Fresh w pb vb n w' vb' n' b o) (hs : w'.heap.size ≤ w''.heap.size) (hg : Grew w' vb' n' vb'' n'') : Fresh w pb vb n w'' vb'' n'' b o := by
  refine ⟨h.1, by have := h.2.1; omega, h.2.2.1, fun e => ?_⟩
  rcases hg with ⟨e', hn⟩ | ⟨g, e', hg⟩
  · have := h.2.2.2 (e' ▸ e)
    omega
  · rw [e'] at e
    injection e with e
    have := h.2.1
    omega
theorem Fresh.back {w w0 w' : World} {pb : Nat} {vb0 vb vb' : Option Nat} {n0 n n' b o : Nat} (h : Fresh w pb vb n w' vb' n' b o) (hs : w0.heap.size ≤ w.heap.size) (hg : Grew w0 vb0 n0 vb n) : Fresh w0 pb vb0 n0 w' vb' n' b o := by
  refine ⟨h.1, h.2.1, ?_, h.2.2.2⟩
  rcases h.2.2.1 with h1 | ⟨h1, h2⟩
  · exact .inl (by omega)
  · rcases hg with ⟨e, hn⟩ | ⟨g, e, hg⟩
    · exact .inr ⟨e ▸ h1, by omega⟩
    · rw [e] at h1
      injection h1 with h1
      exact .inl (by omega)
theorem Cache.keep {w w' : World} {pb n c : Nat} {vb : Option Nat} {C : CellSet} (h : Cache w pb vb n c) (hu : Upd w w' C) (h1 : ¬ C pb 1) (hf : w'.frozen? ⟨pb, 1, none⟩ = false) (h2 : ∀ g, vb = some g → ∀ o, ¬ C g o) : Cache w' pb vb n c := by
  refine ⟨hu.blkT 1 h1 h.ty, (hu.cell pb 1 (blkT_lt h.ty) h1).trans h.vs, hf, h.le, h.cm, h.no, fun g e => ?_⟩
  obtain ⟨cs, hg, hs, hz⟩ := h.sp g e
  refine ⟨cs, ?_, hs, hz⟩
  rw [hu.blk g (Array.getElem?_eq_some_iff.1 hg).1 (h2 g e)]
  exact hg
end Go.Proofs.YtgldcjmdjhghpaaGreatDoor
namespace Go.Proofs.YtgldcjmdjhghpaaGreatDoor
open Go.RowKit Go.Proofs.YtgldcjmdjhghpaaGreatDoorW.PrintWords Go.ChangeShapes Go.WideShapes
set_option linter.unusedVariables false
set_option linter.unusedSimpArgs false
set_option maxRecDepth 100000
structure GotV (w : World) (pb : Nat) (vb : Option Nat) (n : Nat) (g c' : Nat) (w' : World) : Prop where
  cache : Cache w' pb (some g) (n + 1) c'
  upd : Upd w w' (Writes pb vb n)
  grew : Grew w vb n (some g) (n + 1)
  zero : ∀ j, j < 5 → w'.cell? ⟨g, 5 * n + j, none⟩ = z5[j]?
theorem cell_of {w : World} {g t : Nat} {cs : Array Value} {fr : Nat × Nat} (h : w.heap[g]? = some (.cells cs t fr)) (o : Nat) : w.cell? ⟨g, o, none⟩ = cs[o]? := by
  simp [World.cell?, h]
theorem frozen_of {w : World} {g t : Nat} {cs : Array Value} (h : w.heap[g]? = some (.cells cs t)) (o : Nat) : w.frozen? ⟨g, o, none⟩ = false := by
  simp [World.frozen?, h]
theorem GotV.on {w w1 w' : World} {pb n g c' : Nat} {vb : Option Nat} (h : GotV w pb vb n g c' w1) (hb : Below w1.heap.size w1 w') (hf : w'.frozen? ⟨pb, 1, none⟩ = false) : GotV w pb vb n g c' w' := by
  have hu := Upd.of_below hb (fun _ _ => False)
  have hg := (h.cache.sp g rfl)
  obtain ⟨cs, hg, _⟩ := hg
  exact ⟨h.cache.keep hu (fun h => h) hf (fun _ _ _ h => h), h.upd.trans hu (fun _ _ _ h => h) (fun _ _ _ h => h.elim), h.grew, fun j hj => (hu.cell g _ (Array.getElem?_eq_some_iff.1 hg).1 (fun h => h)).trans (h.zero j hj)⟩
theorem GotV.pre {w w1 w' : World} {pb n g c' : Nat} {vb : Option Nat} (h : GotV w1 pb vb n g c' w') (hb : Below w.heap.size w w1) (hs : w1.heap.size = w.heap.size) : GotV w pb vb n g c' w' :=
  ⟨h.cache, (Upd.of_below hb (fun _ _ => False)).trans h.upd (fun _ _ _ h => h.elim) (fun _ _ _ h => h), by
    rcases h.grew with h1 | ⟨g', e, hg⟩
    · exact .inl h1
    · exact .inr ⟨g', e, by omega⟩, h.zero⟩
theorem Cache.room {w : World} {pb n c g : Nat} (h : Cache w pb (some g) n c) (hn : n < c) : GotV w pb (some g) n g c (w.setCell ⟨pb, 1, none⟩ (vsV (some g) (n + 1) c)) := by
  obtain ⟨cs, hg, hs, hz⟩ := h.sp g rfl
  have hu : Upd w (w.setCell ⟨pb, 1, none⟩ (vsV (some g) (n + 1) c)) (Writes pb (some g) n) := Upd.setCell w pb 1 _ (.inl ⟨rfl, rfl⟩)
  have hw0 : ¬ Writes pb (some g) n pb 0 := by
    rintro (⟨_, h0⟩ | ⟨h0, _⟩)
    · cases h0
    · injection h0 with h0
      subst h0
      have := blkT_uniq h.ty ⟨cs, hg⟩
      cases this
  have hne : g ≠ pb := by
    rintro rfl
    have := blkT_uniq h.ty ⟨cs, hg⟩
    cases this
  have hg2 : (w.setCell ⟨pb, 1, none⟩ (vsV (some g) (n + 1) c)).heap[g]? = some (.cells cs 106) := by
    rw [Below.heap_setCell w ⟨pb, 1, none⟩ _ g hne]
    exact hg
  refine ⟨Cache.mk (hu.blkT 0 hw0 h.ty) (World.cell?_setCell_same w ⟨pb, 1, none⟩ _ h.vs) (by rw [World.frozen?_setCell]; exact h.fr) (by omega) h.cm (fun e => by cases e) (fun g' e => ?_), hu, Or.inl ⟨rfl, by omega⟩, fun j hj => ?_⟩
  · injection e with e
    subst e
    exact ⟨cs, hg2, hs, fun k hk1 hk2 => hz k (by omega) hk2⟩
  · rw [cell_of hg2]
    exact hz n (Nat.le_refl _) hn j hj
set_option maxHeartbeats 2000000 in
theorem getValue_room (w : World) (pb g n c : Nat) (hC : Cache w pb (some g) n c) (hn : n < c) :
    Calls Tryz.prog 65 #[.pointer (some ⟨pb, 1, none⟩)] w fun e w' => ∃ g' c', e = .returned (.pointer (some ⟨g', 5 * n, none⟩)) ∧ GotV w pb (some g) n g' c' w' := by
  have HG := Aside0.mk (hC.room hn)
  have k1 : w.cell? ⟨pb, 1, none⟩ = some (.slice (some ⟨g, 0, none⟩) n c) := hC.vs
  have f1 := hC.fr
  have hm : c ≤ 9223372036854775807 := hC.cm
  have hlt := blkT_lt hC.ty
  have HF := Aside0.mk (show (w.setCell ⟨pb, 1, none⟩ (vsV (some g) (n + 1) c)).frozen? ⟨pb, 1, none⟩ = false by rw [World.frozen?_setCell]; exact hC.fr)
  have hz1 : IntKind.i64.wrap ((n : Int) + 1) = (n : Int) + 1 := by rw [IntKind.wrap_i64]; omega
  have hz2 : (0 : Int) ≤ (n : Int) + 1 := by omega
  have hz3 : ((n : Int) + 1).toNat = n + 1 := by omega
  have hz4 : (n : Int) + 1 ≤ (c : Int) := by omega
  have hd : decide ((n : Int) < (c : Int)) = true := decide_eq_true (by omega)
  have hd2 : n + 1 ≤ c := by omega
  clear hC
  go_enter Tryz.func65, Tryz.ntmps65
  go_wp2
  go_quiet (fail)
  go_wp2
  go_region
  go_wp2
  have hy1 : IntKind.i64.wrap ((n : Int) + 1 - 1) = (n : Int) := by rw [IntKind.wrap_i64]; omega
  have hy2 : (0 : Int) ≤ (n : Int) := by omega
  have hy3 : (n : Int) < (n : Int) + 1 := by omega
  go_quiet (fail)
  go_wp2
  go_ret
  exact ⟨g, c, by rw [Nat.mul_comm 5 n]; rfl, (HG.out.on ((Hold.start _).drewN _).below HF.out).on ((Hold.start _).drewN _).below HF.out⟩
theorem zeros_get (z : Array Value) (k i : Nat) (hi : i < k * z.size) (hz : 0 < z.size) : (Builtin.zeroCells z k)[i]? = z[i % z.size]? := by
  have hm : i % z.size < z.size := Nat.mod_lt _ hz
  unfold Builtin.zeroCells
  rw [Array.getElem?_map, Array.getElem?_range, if_pos hi, Option.map_some]
  simp [hm]
def z5a : Array Value := #[.slice none 0 0, .bool false, .slice none 0 0, .string ByteArray.empty, .int .i64 0]
theorem infoV : (Tryz.prog.info? 106).map (fun i => (i.zero, i.size, i.bytes)) = some (some (.agg z5a), 5, 80) := by kernel_rfl
/-- What the store of values holds behind an append that makes a new row. -/
structure NewRow (n cap : Nat) (cs : Array Value) : Prop where
  ge : n + 1 ≤ cap
  cm : cap ≤ maxLen
  size : cs.size = 5 * cap
  zero : ∀ k, n ≤ k → k < cap → ∀ j, j < 5 → cs[5 * k + j]? = z5[j]?
theorem newRow_of (n cap : Nat) (olds : List Value) (ho : olds.length = 5 * n) (hge : n + 1 ≤ cap) (hcm : cap ≤ maxLen) : NewRow n cap (olds.toArray ++ z5.toArray ++ Builtin.zeroCells z5a (cap - (n + 1))) := by
  have hz : (Builtin.zeroCells z5a (cap - (n + 1))).size = (cap - (n + 1)) * 5 := by
    unfold Builtin.zeroCells
    rw [Array.size_map, Array.size_range]
    rfl
  refine ⟨hge, hcm, ?_, fun k hk1 hk2 j hj => ?_⟩
  · rw [Array.size_append, Array.size_append, hz, List.size_toArray, List.size_toArray, ho]
    show 5 * n + 5 + _ = _
    omega
  · rcases Nat.lt_or_ge n k with h | h
    · rw [Array.getElem?_append_right (by rw [Array.size_append, List.size_toArray, List.size_toArray, ho]; show 5 * n + 5 ≤ _; omega)]
      rw [Array.size_append, List.size_toArray, List.size_toArray, ho]
      show (Builtin.zeroCells z5a (cap - (n + 1)))[5 * k + j - (5 * n + 5)]? = _
      rw [zeros_get z5a _ _ (by show _ < _ * 5; omega) (by decide)]
      show z5a[(5 * k + j - (5 * n + 5)) % 5]? = _
      rw [show (5 * k + j - (5 * n + 5)) % 5 = j by omega]
      match j, hj with
      | 0, _ => rfl
      | 1, _ => rfl
      | 2, _ => rfl
      | 3, _ => rfl
      | 4, _ => rfl
    · obtain rfl : k = n := by omega
      rw [Array.getElem?_append_left (by rw [Array.size_append, List.size_toArray, List.size_toArray, ho]; show _ < 5 * k + 5; omega)]
      rw [Array.getElem?_append_right (by rw [List.size_toArray, ho]; omega)]
      rw [List.size_toArray, ho, show 5 * k + j - 5 * k = j by omega]
      simp
theorem cells_list {w : World} {g t : Nat} {cs : Array Value} {fr : Nat × Nat} (h : w.heap[g]? = some (.cells cs t fr)) (m : Nat) (hm : m ≤ cs.size) : ∃ l : List Value, l.length = m ∧ ∀ j u, l[j]? = some u → w.cell? ⟨g, j, none⟩ = some u := by
  refine ⟨cs.toList.take m, by rw [List.length_take, Array.length_toList]; omega, fun j u hu => ?_⟩
  rw [cell_of h]
  rw [List.getElem?_take] at hu
  split at hu
  · simpa using hu
  · cases hu
theorem run_grow {w : World} {pb n : Nat} {vb : Option Nat} (h : Cache w pb vb n n) (hn : n < 1000000000000) (ty : Nat) :
    ∃ cap cs, NewRow n cap cs ∧ (Builtin.append_ #[79, 79] ty #[vsV vb n n, .slice (some ⟨w.heap.size, 0, none⟩) 1 1]).run Tryz.prog (w.alloc (.cells z5.toArray 106)) =
      .ok (.slice (some ⟨w.heap.size + 1, 0, none⟩) (n + 1) cap) ((w.alloc (.cells z5.toArray 106)).drew.alloc (.cells cs 106)) := by
  obtain ⟨i0, hi, hz0, hz1, hz2⟩ := info_parts infoV
  have hz : z5.length = 1 * i0.size := by rw [hz1]; rfl
  have hsz : (w.alloc (.cells z5.toArray 106)).heap.size = w.heap.size + 1 := by simp
  have hnew : ∀ j v, z5[j]? = some v → (w.alloc (.cells z5.toArray 106)).cell? ((⟨w.heap.size, 0, none⟩ : Addr).add j) = some v := fun j v hj => by
    rw [WideShapes.add_plain, Nat.zero_add, World.cell?_alloc_new]
    simpa using hj
  cases vb with
  | none =>
    obtain ⟨rfl, _⟩ := h.no rfl
    refine ⟨grownCap (w.alloc (.cells z5.toArray 106)) 1 0 106, _, newRow_of 0 _ [] rfl (grownCap_ge _ _ _ _) (grownCap_le_maxLen _ _ _ _ (by unfold maxLen; omega)), ?_⟩
    have := run_append_nil (P := Tryz.prog) (w.alloc (.cells z5.toArray 106)) 79 ty 106 i0 (.agg z5a) Tryz.underlying79 hi hz0 ⟨w.heap.size, 0, none⟩ 1 1 z5 hz hnew (by omega) (by omega) (by rw [hz2]; omega)
    rw [hsz] at this
    rw [show ([] : List Value).toArray ++ z5.toArray = z5.toArray by simp]
    exact this
  | some g =>
    obtain ⟨cs, hg, hs, _⟩ := h.sp g rfl
    obtain ⟨l, hl, hc⟩ := cells_list hg (5 * n) (by omega)
    refine ⟨grownCap (w.alloc (.cells z5.toArray 106)) (n + 1) n 106, _, newRow_of n _ l hl (grownCap_ge _ _ _ _) (grownCap_le_maxLen _ _ _ _ (by unfold maxLen; omega)), ?_⟩
    have := run_append_grow (P := Tryz.prog) (w.alloc (.cells z5.toArray 106)) 79 ty 106 i0 (.agg z5a) Tryz.underlying79 hi hz0 ⟨g, 0, none⟩ n n l (by rw [hz1, hl]; omega) (fun j v hj => by
      rw [WideShapes.add_plain, Nat.zero_add, World.cell?_alloc_lt _ _ _ (show g < w.heap.size from (Array.getElem?_eq_some_iff.1 hg).1)]
      exact hc j v hj) ⟨w.heap.size, 0, none⟩ 1 1 z5 hz hnew (by omega) (by omega) (growslice_fits (by omega) (by rw [hz2]; omega))
    rw [hsz] at this
    exact this
theorem Cache.grow {w : World} {pb n cap : Nat} {vb : Option Nat} {cs : Array Value} (h : Cache w pb vb n n) (hr : NewRow n cap cs) (ob : Obj) (k : Nat) :
    GotV w pb vb n (w.heap.size + 1) cap ((((w.alloc ob).drew.alloc (.cells cs 106)).setCell ⟨pb, 1, none⟩ (vsV (some (w.heap.size + 1)) (n + 1) cap)).drewN k) := by
  have hu1 : Upd w ((w.alloc ob).drew.alloc (.cells cs 106)) (Writes pb vb n) := Upd.of_below ((((Below.refl _ _).alloc (Nat.le_refl _) ob).drew).alloc (by simp) _) _
  have hu2 := Upd.setCell ((w.alloc ob).drew.alloc (.cells cs 106)) pb 1 (vsV (some (w.heap.size + 1)) (n + 1) cap) (C := Writes pb vb n) (.inl ⟨rfl, rfl⟩)
  have hu3 := Upd.drewN (((w.alloc ob).drew.alloc (.cells cs 106)).setCell ⟨pb, 1, none⟩ (vsV (some (w.heap.size + 1)) (n + 1) cap)) k (Writes pb vb n)
  have hu := (hu1.trans hu2 (fun _ _ _ h => h) (fun _ _ _ h => h)).trans hu3 (fun _ _ _ h => h) (fun _ _ _ h => h)
  have hlt := blkT_lt h.ty
  have hw0 : ¬ Writes pb vb n pb 0 := by
    rintro (⟨_, h0⟩ | ⟨h0, _⟩)
    · cases h0
    · obtain ⟨cs', hg', _⟩ := h.sp pb h0
      have := blkT_uniq h.ty ⟨cs', hg'⟩
      cases this
  have hg : ((((w.alloc ob).drew.alloc (.cells cs 106)).setCell ⟨pb, 1, none⟩ (vsV (some (w.heap.size + 1)) (n + 1) cap)).drewN k).heap[w.heap.size + 1]? = some (.cells cs 106) := by
    show (((w.alloc ob).drew.alloc (.cells cs 106)).setCell ⟨pb, 1, none⟩ (vsV (some (w.heap.size + 1)) (n + 1) cap)).heap[w.heap.size + 1]? = _
    rw [Below.heap_setCell _ ⟨pb, 1, none⟩ _ _ (show w.heap.size + 1 ≠ pb by omega)]
    have := blk_new (w.alloc ob).drew (.cells cs 106)
    rwa [show (w.alloc ob).drew.heap.size = w.heap.size + 1 by simp] at this
  have hc1 : ((w.alloc ob).drew.alloc (.cells cs 106)).cell? ⟨pb, 1, none⟩ = some (vsV vb n n) := ((((Below.refl _ _).alloc (Nat.le_refl _) ob).drew).alloc (by simp) _ : Below w.heap.size w ((w.alloc ob).drew.alloc (.cells cs 106))).cell (p := ⟨pb, 1, none⟩) hlt |>.trans h.vs
  refine ⟨Cache.mk (hu.blkT 0 hw0 h.ty) ?_ ?_ (by have := hr.ge; omega) hr.cm (fun e => by cases e) (fun g' e => ?_), hu, Or.inr ⟨_, rfl, by omega⟩, fun j hj => ?_⟩
  · exact World.cell?_setCell_same _ ⟨pb, 1, none⟩ _ hc1
  · show ((((w.alloc ob).drew.alloc (.cells cs 106)).setCell ⟨pb, 1, none⟩ (vsV (some (w.heap.size + 1)) (n + 1) cap))).frozen? ⟨pb, 1, none⟩ = false
    rw [World.frozen?_setCell]
    have hb : Below w.heap.size w ((w.alloc ob).drew.alloc (.cells cs 106)) := (((Below.refl _ _).alloc (Nat.le_refl _) ob).drew).alloc (by simp) _
    rw [hb.frozen (p := ⟨pb, 1, none⟩) hlt]
    exact h.fr
  · injection e with e
    subst e
    exact ⟨cs, hg, hr.size, fun k hk1 hk2 => hr.zero k (by omega) hk2⟩
  · rw [cell_of hg]
    exact hr.zero n (Nat.le_refl _) (by have := hr.ge; omega) j hj
theorem wpList_append_run {P : Program} {w w' : World} {ops : Array Oper} {rest : List Oper} {o : Oper} {a : Act} {Q : Exit → Act → World → Prop} (hg : o.guard = none) (s x : Operand) (t t2 : TypeId)
    (hop : o.op = Op.call { callee := Callee.builtin Builtin.append, args := #[s, x], argTypes := #[t, t2] }) (sv xv v : Value) (hs : a.eval s = sv) (hx : a.eval x = xv)
    (hrun : (Builtin.append_ #[t, t2] o.type #[sv, xv]).run P w = .ok v w') (h : wpList P ops Q rest (a.put o.dst v) w') : wpList P ops Q (o :: rest) a w := by
  refine wpList_plain hg fun K hK' => ?_
  unfold Oper.wp
  simp [execOp, hop, resolve, invoke, builtin, hs, hx, hrun, Result.andThen]
  exact hK' _ _ h
theorem Cache.on {w w' : World} {pb n c : Nat} {vb : Option Nat} (h : Cache w pb vb n c) (hb : Below w.heap.size w w') : Cache w' pb vb n c :=
  h.keep (Upd.of_below hb (fun _ _ => False)) (fun h => h) ((hb.frozen (p := ⟨pb, 1, none⟩) (blkT_lt h.ty)).trans h.fr) (fun _ _ _ h => h)
set_option maxHeartbeats 2000000 in
theorem getValue_full (w : World) (pb n : Nat) (vb : Option Nat) (hC : Cache w pb vb n n) (hn : n < 1000000000000) :
    Calls Tryz.prog 65 #[.pointer (some ⟨pb, 1, none⟩)] w fun e w' => ∃ g' c', e = .returned (.pointer (some ⟨g', 5 * n, none⟩)) ∧ GotV w pb vb n g' c' w' := by
  have HC := Aside0.mk hC
  have k1 : w.cell? ⟨pb, 1, none⟩ = some (.slice (vb.map fun g => ⟨g, 0, none⟩) n n) := hC.vs
  have f1 := hC.fr
  have hlt := blkT_lt hC.ty
  have hd : decide ((n : Int) < (n : Int)) = false := decide_eq_false (by omega)
  clear hC
  go_enter Tryz.func65, Tryz.ntmps65
  go_wp2
  go_quiet (fail)
  obtain ⟨w1, hw1⟩ : ∃ w1, w1 = w.drewN nq := ⟨_, rfl⟩
  have HB1 := Aside0.mk (show Below w.heap.size w w1 by rw [hw1]; exact ((Hold.start w).drewN nq).below)
  have HS1 := Aside0.mk (show w1.heap.size = w.heap.size by rw [hw1]; rfl)
  have k2 : w1.cell? ⟨pb, 1, none⟩ = some (.slice (vb.map fun g => ⟨g, 0, none⟩) n n) := by rw [hw1]; exact k1
  have f2 : w1.frozen? ⟨pb, 1, none⟩ = false := by rw [hw1]; exact f1
  have hlt1 : pb < w1.heap.size := by rw [hw1]; exact hlt
  rw [← hw1]
  have HC1 := Aside0.mk (HC.out.on HB1.out)
  clear hw1 k1 f1 hlt HC
  obtain ⟨cap, cs, hr, hrun⟩ := run_grow HC1.out hn 79
  have HR := Aside0.mk hr
  have hge := hr.ge
  have hcm : cap ≤ 9223372036854775807 := hr.cm
  have HRun := Aside0.mk hrun
  clear hr hrun
  have HG := Aside0.mk (fun k => HC1.out.grow HR.out (.cells z5.toArray 106) k)
  go_wp2_with ((with_reducible refine at_bi (b := .append) (xs := #[.tmp 32, .tmp 34]) rfl ?_); at_builtin; refine wpList_append_run rfl (.tmp 32) (.tmp 34) 79 79 rfl _ _ _ rfl rfl HRun.out ?_)
  have hy0 : IntKind.i64.wrap ((n : Int) + 1 - 1) = (n : Int) := by rw [IntKind.wrap_i64]; omega
  have hy1 : IntKind.i64.wrap (((n + 1 : Nat) : Int) - 1) = (n : Int) := by rw [IntKind.wrap_i64]; omega
  have hy2 : (0 : Int) ≤ (n : Int) := by omega
  have hy3 : (n : Int) < (n : Int) + 1 := by omega
  have hy4 : (n : Int) < ((n + 1 : Nat) : Int) := by omega
  go_quiet (fail)
  go_wp2
  go_ret
  have HG2 := (HG.out nq).pre HB1.out HS1.out
  rw [World.setCell_alloc_past _ _ _ _ (show pb < (w1.alloc (.cells z5.toArray 106)).drew.heap.size by simp; omega)] at HG2
  rw [show (w1.alloc (.cells z5.toArray 106)).drew.setCell ⟨pb, 1, none⟩ (vsV (some (w1.heap.size + 1)) (n + 1) cap) = ((w1.alloc (.cells z5.toArray 106)).setCell ⟨pb, 1, none⟩ (vsV (some (w1.heap.size + 1)) (n + 1) cap)).drew from rfl, World.setCell_alloc_past _ _ _ _ hlt1] at HG2
  exact ⟨_, cap, by rw [Nat.mul_comm 5 n]; rfl, HG2⟩
theorem getValue_any (w : World) (pb n c : Nat) (vb : Option Nat) (hC : Cache w pb vb n c) (hn : n < 1000000000000) :
    Calls Tryz.prog 65 #[.pointer (some ⟨pb, 1, none⟩)] w fun e w' => ∃ g' c', e = .returned (.pointer (some ⟨g', 5 * n, none⟩)) ∧ GotV w pb vb n g' c' w' := by
  have hle := hC.le
  rcases Nat.lt_or_ge n c with h | h
  · cases vb with
    | none => have := hC.no rfl; omega
    | some g => exact getValue_room w pb g n c hC h
  · obtain rfl : c = n := by omega
    exact getValue_full w pb c vb hC hn
end Go.Proofs.YtgldcjmdjhghpaaGreatDoor
namespace Go.Proofs.YtgldcjmdjhghpaaGreatDoor
open Go.RowKit Go.Proofs.YtgldcjmdjhghpaaGreatDoorW.PrintWords Go.ChangeShapes Go.WideShapes
set_option linter.unusedVariables false
set_option linter.unusedSimpArgs false
set_option maxRecDepth 100000
/-- The fields of an object, as they lie: the block, how many, how much room. -/
structure Kvs (w : World) (ob oo : Nat) (kb : Option Nat) (n c : Nat) : Prop where
  lt : ob < w.heap.size
  vs : w.cell? ⟨ob, oo, none⟩ = some (vsV kb n c)
  fr : w.frozen? ⟨ob, oo, none⟩ = false
  le : n ≤ c
  cm : c ≤ maxLen
  no : kb = none → n = 0 ∧ c = 0
  sp : ∀ g, kb = some g → g ≠ ob ∧ ∃ cs, w.heap[g]? = some (.cells cs 125) ∧ cs.size = 2 * c
structure GotK (w : World) (ob oo : Nat) (kb : Option Nat) (n : Nat) (g c' : Nat) (w' : World) : Prop where
  kvs : Kvs w' ob oo (some g) (n + 1) c'
  upd : Upd w w' (fun b o => b = ob ∧ o = oo)
  old : kb = some g ∨ w.heap.size ≤ g
  same : ∀ b, kb = some b → ∀ j, j < 2 * n → w'.cell? ⟨g, j, none⟩ = w.cell? ⟨b, j, none⟩
theorem GotK.on {w w1 w' : World} {ob oo n g c' : Nat} {kb : Option Nat} (h : GotK w ob oo kb n g c' w1) (hb : Below w1.heap.size w1 w') : GotK w ob oo kb n g c' w' := by
  have hu := Upd.of_below hb (fun _ _ => False)
  obtain ⟨hne, cs, hg, hs⟩ := h.kvs.sp g rfl
  have hglt := (Array.getElem?_eq_some_iff.1 hg).1
  refine ⟨Kvs.mk (Nat.lt_of_lt_of_le h.kvs.lt hb.size) ((hu.cell ob oo h.kvs.lt (fun h => h)).trans h.kvs.vs) ((hb.frozen (p := ⟨ob, oo, none⟩) h.kvs.lt).trans h.kvs.fr) h.kvs.le h.kvs.cm h.kvs.no (fun g' e => ?_), h.upd.trans hu (fun _ _ _ h => h) (fun _ _ _ h => h.elim), h.old, fun b e j hj => (hu.cell g j hglt (fun h => h)).trans (h.same b e j hj)⟩
  injection e with e
  subst e
  exact ⟨hne, cs, (hb.block _ hglt).trans hg, hs⟩
theorem GotK.pre {w w1 w' : World} {ob oo n g c' : Nat} {kb : Option Nat} (h : GotK w1 ob oo kb n g c' w') (hb : Below w.heap.size w w1) (hs : w1.heap.size = w.heap.size) (hk : ∀ b, kb = some b → b < w.heap.size) : GotK w ob oo kb n g c' w' :=
  ⟨h.kvs, (Upd.of_below hb (fun _ _ => False)).trans h.upd (fun _ _ _ h => h.elim) (fun _ _ _ h => h), by
    rcases h.old with h1 | h1
    · exact .inl h1
    · exact .inr (by omega), fun b e j hj => (h.same b e j hj).trans (hb.cell (p := ⟨b, j, none⟩) (hk b e))⟩
theorem Kvs.on {w w' : World} {ob oo n c : Nat} {kb : Option Nat} (h : Kvs w ob oo kb n c) (hb : Below w.heap.size w w') : Kvs w' ob oo kb n c := by
  refine Kvs.mk (Nat.lt_of_lt_of_le h.lt hb.size) ((hb.cell (p := ⟨ob, oo, none⟩) h.lt).trans h.vs) ((hb.frozen (p := ⟨ob, oo, none⟩) h.lt).trans h.fr) h.le h.cm h.no (fun g e => ?_)
  obtain ⟨hne, cs, hg, hs⟩ := h.sp g e
  exact ⟨hne, cs, (hb.block _ (Array.getElem?_eq_some_iff.1 hg).1).trans hg, hs⟩
theorem Kvs.blt {w : World} {ob oo n c : Nat} {kb : Option Nat} (h : Kvs w ob oo kb n c) : ∀ b, kb = some b → b < w.heap.size := fun b e => by
  obtain ⟨_, cs, hg, _⟩ := h.sp b e
  exact (Array.getElem?_eq_some_iff.1 hg).1
theorem Kvs.room {w : World} {ob oo n c g : Nat} (h : Kvs w ob oo (some g) n c) (hn : n < c) : GotK w ob oo (some g) n g c (w.setCell ⟨ob, oo, none⟩ (vsV (some g) (n + 1) c)) := by
  obtain ⟨hne, cs, hg, hs⟩ := h.sp g rfl
  have hu : Upd w (w.setCell ⟨ob, oo, none⟩ (vsV (some g) (n + 1) c)) (fun b o => b = ob ∧ o = oo) := Upd.setCell w ob oo _ ⟨rfl, rfl⟩
  have hg2 : (w.setCell ⟨ob, oo, none⟩ (vsV (some g) (n + 1) c)).heap[g]? = some (.cells cs 125) := by
    rw [Below.heap_setCell w ⟨ob, oo, none⟩ _ g hne]
    exact hg
  refine ⟨Kvs.mk (Nat.lt_of_lt_of_le h.lt hu.size) (World.cell?_setCell_same w ⟨ob, oo, none⟩ _ h.vs) (by rw [World.frozen?_setCell]; exact h.fr) (by omega) h.cm (fun e => by cases e) (fun g' e => ?_), hu, .inl rfl, fun b e j hj => ?_⟩
  · injection e with e
    subst e
    exact ⟨hne, cs, hg2, hs⟩
  · injection e with e
    subst e
    rw [cell_of hg2, cell_of hg]
set_option maxHeartbeats 2000000 in
theorem getKV_room (w : World) (ob oo g n c : Nat) (hC : Kvs w ob oo (some g) n c) (hn : n < c) :
    Calls Tryz.prog 79 #[.pointer (some ⟨ob, oo, none⟩)] w fun e w' => ∃ g' c', e = .returned (.pointer (some ⟨g', 2 * n, none⟩)) ∧ GotK w ob oo (some g) n g' c' w' := by
  have HG := Aside0.mk (hC.room hn)
  have k1 : w.cell? ⟨ob, oo, none⟩ = some (.slice (some ⟨g, 0, none⟩) n c) := hC.vs
  have f1 := hC.fr
  have hm : c ≤ 9223372036854775807 := hC.cm
  have hlt := hC.lt
  have hz1 : IntKind.i64.wrap ((n : Int) + 1) = (n : Int) + 1 := by rw [IntKind.wrap_i64]; omega
  have hz2 : (0 : Int) ≤ (n : Int) + 1 := by omega
  have hz3 : ((n : Int) + 1).toNat = n + 1 := by omega
  have hz4 : (n : Int) + 1 ≤ (c : Int) := by omega
  have hd : decide ((n : Int) < (c : Int)) = true := decide_eq_true (by omega)
  have hd2 : n + 1 ≤ c := by omega
  clear hC
  go_enter Tryz.func79, Tryz.ntmps79
  go_wp2
  go_quiet (fail)
  go_wp2
  go_region
  go_wp2
  have hy1 : IntKind.i64.wrap ((n : Int) + 1 - 1) = (n : Int) := by rw [IntKind.wrap_i64]; omega
  have hy2 : (0 : Int) ≤ (n : Int) := by omega
  have hy3 : (n : Int) < (n : Int) + 1 := by omega
  go_quiet (fail)
  go_wp2
  go_ret
  exact ⟨g, c, by rw [Nat.mul_comm 2 n]; rfl, (HG.out.on ((Hold.start _).drewN _).below).on ((Hold.start _).drewN _).below⟩
def z2 : List Value := [.string ByteArray.empty, .pointer none]
def z2a : Array Value := #[.string ByteArray.empty, .pointer none]
theorem infoK : (Tryz.prog.info? 125).map (fun i => (i.zero, i.size, i.bytes)) = some (some (.agg z2a), 2, 24) := by kernel_rfl
/-- What the fields hold behind an append that makes a new row. -/
structure NewKv (n cap : Nat) (olds : List Value) (cs : Array Value) : Prop where
  ge : n + 1 ≤ cap
  cm : cap ≤ maxLen
  size : cs.size = 2 * cap
  old : ∀ j, j < 2 * n → cs[j]? = olds[j]?
theorem newKv_of (n cap : Nat) (olds : List Value) (ho : olds.length = 2 * n) (hge : n + 1 ≤ cap) (hcm : cap ≤ maxLen) : NewKv n cap olds (olds.toArray ++ z2.toArray ++ Builtin.zeroCells z2a (cap - (n + 1))) := by
  have hz : (Builtin.zeroCells z2a (cap - (n + 1))).size = (cap - (n + 1)) * 2 := by
    unfold Builtin.zeroCells
    rw [Array.size_map, Array.size_range]
    rfl
  refine ⟨hge, hcm, ?_, fun j hj => ?_⟩
  · rw [Array.size_append, Array.size_append, hz, List.size_toArray, List.size_toArray, ho]
    show 2 * n + 2 + _ = _
    omega
  · rw [Array.getElem?_append_left (by rw [Array.size_append, List.size_toArray, List.size_toArray, ho]; omega), Array.getElem?_append_left (by rw [List.size_toArray, ho]; omega)]
    simp
theorem run_growK {w : World} {ob oo n : Nat} {kb : Option Nat} (h : Kvs w ob oo kb n n) (hn : n < 1000000000000) (ty : Nat) :
    ∃ cap cs olds, NewKv n cap olds cs ∧ (∀ b, kb = some b → ∀ j, j < 2 * n → w.cell? ⟨b, j, none⟩ = olds[j]?) ∧ (Builtin.append_ #[101, 101] ty #[vsV kb n n, .slice (some ⟨w.heap.size, 0, none⟩) 1 1]).run Tryz.prog (w.alloc (.cells z2.toArray 125)) =
      .ok (.slice (some ⟨w.heap.size + 1, 0, none⟩) (n + 1) cap) ((w.alloc (.cells z2.toArray 125)).drew.alloc (.cells cs 125)) := by
  obtain ⟨i0, hi, hz0, hz1, hz2⟩ := info_parts infoK
  have hz : z2.length = 1 * i0.size := by rw [hz1]; rfl
  have hsz : (w.alloc (.cells z2.toArray 125)).heap.size = w.heap.size + 1 := by simp
  have hnew : ∀ j v, z2[j]? = some v → (w.alloc (.cells z2.toArray 125)).cell? ((⟨w.heap.size, 0, none⟩ : Addr).add j) = some v := fun j v hj => by
    rw [WideShapes.add_plain, Nat.zero_add, World.cell?_alloc_new]
    simpa using hj
  cases kb with
  | none =>
    obtain ⟨rfl, _⟩ := h.no rfl
    refine ⟨grownCap (w.alloc (.cells z2.toArray 125)) 1 0 125, _, [], newKv_of 0 _ [] rfl (grownCap_ge _ _ _ _) (grownCap_le_maxLen _ _ _ _ (by unfold maxLen; omega)), fun b e => (by cases e), ?_⟩
    have := run_append_nil (P := Tryz.prog) (w.alloc (.cells z2.toArray 125)) 101 ty 125 i0 (.agg z2a) Tryz.underlying101 hi hz0 ⟨w.heap.size, 0, none⟩ 1 1 z2 hz hnew (by omega) (by omega) (by rw [hz2]; omega)
    rw [hsz] at this
    rw [show ([] : List Value).toArray ++ z2.toArray = z2.toArray by simp]
    exact this
  | some g =>
    obtain ⟨hne, cs, hg, hs⟩ := h.sp g rfl
    obtain ⟨l, hl, hc⟩ := cells_list hg (2 * n) (by omega)
    refine ⟨grownCap (w.alloc (.cells z2.toArray 125)) (n + 1) n 125, _, l, newKv_of n _ l hl (grownCap_ge _ _ _ _) (grownCap_le_maxLen _ _ _ _ (by unfold maxLen; omega)), fun b e j hj => ?_, ?_⟩
    · injection e with e
      subst e
      have hj2 : j < l.length := by omega
      rw [List.getElem?_eq_getElem hj2]
      exact hc j _ (List.getElem?_eq_getElem hj2)
    have := run_append_grow (P := Tryz.prog) (w.alloc (.cells z2.toArray 125)) 101 ty 125 i0 (.agg z2a) Tryz.underlying101 hi hz0 ⟨g, 0, none⟩ n n l (by rw [hz1, hl]; omega) (fun j v hj => by
      rw [WideShapes.add_plain, Nat.zero_add, World.cell?_alloc_lt _ _ _ (show g < w.heap.size from (Array.getElem?_eq_some_iff.1 hg).1)]
      exact hc j v hj) ⟨w.heap.size, 0, none⟩ 1 1 z2 hz hnew (by omega) (by omega) (growslice_fits (by omega) (by rw [hz2]; omega))
    rw [hsz] at this
    exact this
theorem Kvs.grow {w : World} {ob oo n cap : Nat} {kb : Option Nat} {cs : Array Value} {olds : List Value} (h : Kvs w ob oo kb n n) (hr : NewKv n cap olds cs) (ho : ∀ b, kb = some b → ∀ j, j < 2 * n → w.cell? ⟨b, j, none⟩ = olds[j]?) (x : Obj) (k : Nat) :
    GotK w ob oo kb n (w.heap.size + 1) cap ((((w.alloc x).drew.alloc (.cells cs 125)).setCell ⟨ob, oo, none⟩ (vsV (some (w.heap.size + 1)) (n + 1) cap)).drewN k) := by
  have hb1 : Below w.heap.size w ((w.alloc x).drew.alloc (.cells cs 125)) := (((Below.refl _ _).alloc (Nat.le_refl _) x).drew).alloc (by simp) _
  have hu1 : Upd w ((w.alloc x).drew.alloc (.cells cs 125)) (fun b o => b = ob ∧ o = oo) := Upd.of_below hb1 _
  have hu2 := Upd.setCell ((w.alloc x).drew.alloc (.cells cs 125)) ob oo (vsV (some (w.heap.size + 1)) (n + 1) cap) (C := fun b o => b = ob ∧ o = oo) ⟨rfl, rfl⟩
  have hu3 := Upd.drewN (((w.alloc x).drew.alloc (.cells cs 125)).setCell ⟨ob, oo, none⟩ (vsV (some (w.heap.size + 1)) (n + 1) cap)) k (fun b o => b = ob ∧ o = oo)
  have hu := (hu1.trans hu2 (fun _ _ _ h => h) (fun _ _ _ h => h)).trans hu3 (fun _ _ _ h => h) (fun _ _ _ h => h)
  have hlt := h.lt
  have hg : ((((w.alloc x).drew.alloc (.cells cs 125)).setCell ⟨ob, oo, none⟩ (vsV (some (w.heap.size + 1)) (n + 1) cap)).drewN k).heap[w.heap.size + 1]? = some (.cells cs 125) := by
    show (((w.alloc x).drew.alloc (.cells cs 125)).setCell ⟨ob, oo, none⟩ (vsV (some (w.heap.size + 1)) (n + 1) cap)).heap[w.heap.size + 1]? = _
    rw [Below.heap_setCell _ ⟨ob, oo, none⟩ _ _ (show w.heap.size + 1 ≠ ob by omega)]
    have := blk_new (w.alloc x).drew (.cells cs 125)
    rwa [show (w.alloc x).drew.heap.size = w.heap.size + 1 by simp] at this
  refine ⟨Kvs.mk (Nat.lt_of_lt_of_le h.lt hu.size) ?_ ?_ (by have := hr.ge; omega) hr.cm (fun e => by cases e) (fun g' e => ?_), hu, Or.inr (by omega), fun b e j hj => ?_⟩
  · exact World.cell?_setCell_same _ ⟨ob, oo, none⟩ _ ((hb1.cell (p := ⟨ob, oo, none⟩) hlt).trans h.vs)
  · show ((((w.alloc x).drew.alloc (.cells cs 125)).setCell ⟨ob, oo, none⟩ (vsV (some (w.heap.size + 1)) (n + 1) cap))).frozen? ⟨ob, oo, none⟩ = false
    rw [World.frozen?_setCell, hb1.frozen (p := ⟨ob, oo, none⟩) hlt]
    exact h.fr
  · injection e with e
    subst e
    exact ⟨by omega, cs, hg, hr.size⟩
  · rw [cell_of hg, hr.old j hj, ho b e j hj]
set_option maxHeartbeats 2000000 in
theorem getKV_full (w : World) (ob oo n : Nat) (kb : Option Nat) (hC : Kvs w ob oo kb n n) (hn : n < 1000000000000) :
    Calls Tryz.prog 79 #[.pointer (some ⟨ob, oo, none⟩)] w fun e w' => ∃ g' c', e = .returned (.pointer (some ⟨g', 2 * n, none⟩)) ∧ GotK w ob oo kb n g' c' w' := by
  have HC := Aside0.mk hC
  have k1 : w.cell? ⟨ob, oo, none⟩ = some (.slice (kb.map fun g => ⟨g, 0, none⟩) n n) := hC.vs
  have f1 := hC.fr
  have hlt := hC.lt
  have HBl := Aside0.mk hC.blt
  have hd : decide ((n : Int) < (n : Int)) = false := decide_eq_false (by omega)
  clear hC
  go_enter Tryz.func79, Tryz.ntmps79
  go_wp2
  go_quiet (fail)
  obtain ⟨w1, hw1⟩ : ∃ w1, w1 = w.drewN nq := ⟨_, rfl⟩
  have HB1 := Aside0.mk (show Below w.heap.size w w1 by rw [hw1]; exact ((Hold.start w).drewN nq).below)
  have HS1 := Aside0.mk (show w1.heap.size = w.heap.size by rw [hw1]; rfl)
  have k2 : w1.cell? ⟨ob, oo, none⟩ = some (.slice (kb.map fun g => ⟨g, 0, none⟩) n n) := by rw [hw1]; exact k1
  have f2 : w1.frozen? ⟨ob, oo, none⟩ = false := by rw [hw1]; exact f1
  have hlt1 : ob < w1.heap.size := by rw [hw1]; exact hlt
  rw [← hw1]
  have HC1 := Aside0.mk (HC.out.on HB1.out)
  clear hw1 k1 f1 hlt HC
  obtain ⟨cap, cs, olds, hr, ho, hrun⟩ := run_growK HC1.out hn 101
  have HR := Aside0.mk hr
  have HO := Aside0.mk ho
  have hge := hr.ge
  have hcm : cap ≤ 9223372036854775807 := hr.cm
  have HRun := Aside0.mk hrun
  clear hr hrun ho
  have HG := Aside0.mk (fun k => HC1.out.grow HR.out HO.out (.cells z2.toArray 125) k)
  go_wp2_with ((with_reducible refine at_bi (b := .append) (xs := #[.tmp 32, .tmp 34]) rfl ?_); at_builtin; refine wpList_append_run rfl (.tmp 32) (.tmp 34) 101 101 rfl _ _ _ rfl rfl HRun.out ?_)
  have hy0 : IntKind.i64.wrap ((n : Int) + 1 - 1) = (n : Int) := by rw [IntKind.wrap_i64]; omega
  have hy1 : IntKind.i64.wrap (((n + 1 : Nat) : Int) - 1) = (n : Int) := by rw [IntKind.wrap_i64]; omega
  have hy2 : (0 : Int) ≤ (n : Int) := by omega
  have hy3 : (n : Int) < (n : Int) + 1 := by omega
  have hy4 : (n : Int) < ((n + 1 : Nat) : Int) := by omega
  go_quiet (fail)
  go_wp2
  go_ret
  have HG2 := (HG.out nq).pre HB1.out HS1.out HBl.out
  rw [World.setCell_alloc_past _ _ _ _ (show ob < (w1.alloc (.cells z2.toArray 125)).drew.heap.size by simp; omega)] at HG2
  rw [show (w1.alloc (.cells z2.toArray 125)).drew.setCell ⟨ob, oo, none⟩ (vsV (some (w1.heap.size + 1)) (n + 1) cap) = ((w1.alloc (.cells z2.toArray 125)).setCell ⟨ob, oo, none⟩ (vsV (some (w1.heap.size + 1)) (n + 1) cap)).drew from rfl, World.setCell_alloc_past _ _ _ _ hlt1] at HG2
  exact ⟨_, cap, by rw [Nat.mul_comm 2 n]; rfl, HG2⟩
theorem getKV_any (w : World) (ob oo n c : Nat) (kb : Option Nat) (hC : Kvs w ob oo kb n c) (hn : n < 1000000000000) :
    Calls Tryz.prog 79 #[.pointer (some ⟨ob, oo, none⟩)] w fun e w' => ∃ g' c', e = .returned (.pointer (some ⟨g', 2 * n, none⟩)) ∧ GotK w ob oo kb n g' c' w' := by
  have hle := hC.le
  rcases Nat.lt_or_ge n c with h | h
  · cases kb with
    | none => have := hC.no rfl; omega
    | some g => exact getKV_room w ob oo g n c hC h
  · obtain rfl : c = n := by omega
    exact getKV_full w ob oo c kb hC hn
end Go.Proofs.YtgldcjmdjhghpaaGreatDoor
namespace Go.Proofs.YtgldcjmdjhghpaaGreatDoor
open Go.RowKit Go.Proofs.YtgldcjmdjhghpaaGreatDoorW.PrintWords Go.ChangeShapes Go.WideShapes
set_option linter.unusedVariables false
set_option linter.unusedSimpArgs false
set_option maxRecDepth 100000
theorem oreset_any (w : World) (ob oo : Nat) (h0 : w.cell? ⟨ob, oo, none⟩ = some (.slice none 0 0)) (h1 : w.cell? ⟨ob, oo + 1, none⟩ = some (.bool false)) (f0 : w.frozen? ⟨ob, oo, none⟩ = false) (f1 : w.frozen? ⟨ob, oo + 1, none⟩ = false) :
    Calls Tryz.prog 78 #[.pointer (some ⟨ob, oo, none⟩)] w fun e w' => e = .returned (.tuple #[]) ∧ w' = (w.setCell ⟨ob, oo, none⟩ (.slice none 0 0)).setCell ⟨ob, oo + 1, none⟩ (.bool false) := by
  have hcl : ∀ w : World, (Builtin.clear_ #[101] 0 #[.slice none 0 0]).run Tryz.prog w = .ok (.tuple #[]) w := fun w => by kernel_rfl
  go_enter Tryz.func78, Tryz.ntmps78
  go_wp2
  go_end0
  exact ⟨rfl, rfl⟩
theorem zzTrue_any (w : World) :
    Calls Tryz.prog 66 #[] w fun e w' => e = .returned (.pointer (some ⟨w.heap.size, 0, none⟩)) ∧ w' = w.alloc (.cells #[.slice none 0 0, .bool false, .slice none 0 0, .string ByteArray.empty, .int .i64 5] 106) := by
  go_enter Tryz.func66, Tryz.ntmps66
  go_wp2
  go_ret
  exact ⟨rfl, rfl⟩
theorem zzFalse_any (w : World) :
    Calls Tryz.prog 67 #[] w fun e w' => e = .returned (.pointer (some ⟨w.heap.size, 0, none⟩)) ∧ w' = w.alloc (.cells #[.slice none 0 0, .bool false, .slice none 0 0, .string ByteArray.empty, .int .i64 6] 106) := by
  go_enter Tryz.func67, Tryz.ntmps67
  go_wp2
  go_ret
  exact ⟨rfl, rfl⟩
theorem zzNull_any (w : World) :
    Calls Tryz.prog 69 #[] w fun e w' => e = .returned (.pointer (some ⟨w.heap.size, 0, none⟩)) ∧ w' = w.alloc (.cells #[.slice none 0 0, .bool false, .slice none 0 0, .string ByteArray.empty, .int .i64 0] 106) := by
  go_enter Tryz.func69, Tryz.ntmps69
  go_wp2
  go_ret
  exact ⟨rfl, rfl⟩
end Go.Proofs.YtgldcjmdjhghpaaGreatDoor
namespace Go.Proofs.YtgldcjmdjhghpaaGreatDoor
set_option linter.unusedVariables false
def nb (s : Bs) : Nat := (s.filter fun c => !isWS c).length
theorem nb_append (s t : Bs) : nb (s ++ t) = nb s + nb t := by unfold nb; rw [List.filter_append, List.length_append]
theorem nb_no {c : UInt8} (r : Bs) (h : isWS c = false) : nb (c :: r) = nb r + 1 := by unfold nb; rw [List.filter_cons, h]; rfl
theorem nb_le_cons (c : UInt8) (r : Bs) : nb r ≤ nb (c :: r) := by
  unfold nb
  rw [List.filter_cons]
  split
  · rw [List.length_cons]; omega
  · exact Nat.le_refl _
theorem nb_le (s : Bs) : nb s ≤ s.length := List.length_filter_le _ _
theorem nb_skip (s : Bs) : nb (skipWS s) = nb s := by
  induction s with
  | nil => rfl
  | cons c r ih =>
    unfold skipWS
    cases h : isWS c with
    | true =>
      rw [List.dropWhile_cons_of_pos h]
      show nb (skipWS r) = _
      rw [ih]
      unfold nb
      rw [List.filter_cons, h]
      rfl
    | false => rw [List.dropWhile_cons_of_neg (by rw [h]; exact Bool.false_ne_true)]
theorem skip_len (s : Bs) : (skipWS s).length ≤ s.length := (List.dropWhile_suffix _).length_le
theorem skip_head {s r : Bs} {c : UInt8} (h : skipWS s = c :: r) : isWS c = false := by
  induction s with
  | nil => cases h
  | cons d t ih =>
    unfold skipWS at h
    cases hd : isWS d with
    | true => rw [List.dropWhile_cons_of_pos hd] at h; exact ih h
    | false =>
      rw [List.dropWhile_cons_of_neg (by rw [hd]; exact Bool.false_ne_true)] at h
      injection h with h1 h2
      rw [← h1]
      exact hd
theorem skip_skip (s : Bs) : skipWS (skipWS s) = skipWS s := by
  cases h : skipWS s with
  | nil => rfl
  | cons c r =>
    unfold skipWS
    rw [List.dropWhile_cons_of_neg (by rw [skip_head h]; exact Bool.false_ne_true)]
theorem scan_eq : ∀ (s : Bs) (e : Bool) (p r : Bs), scanStr e s = some (p, r) → s = p ++ 34 :: r
  | [], e, p, r, h => by cases h
  | c :: s, e, p, r, h => by
    rw [scanStr] at h
    split at h
    · rename_i hc
      injection h with h
      injection h with h1 h2
      rw [← h1, ← h2, hc.1]
      rfl
    · cases hq : scanStr (c == 92 && !e) s with
      | none => rw [hq] at h; cases h
      | some q =>
        rw [hq] at h
        injection h with h
        injection h with h1 h2
        have := scan_eq s _ q.1 q.2 hq
        rw [← h1, ← h2, List.cons_append, ← this]
theorem rawStr_eq {s p r : Bs} (h : rawStr s = some (p, r)) : s = p ++ 34 :: r := scan_eq s false p r h
theorem rawKey_eq {s p r : Bs} (h : rawKey s = some (p, r)) : s = p ++ 34 :: r := by
  unfold rawKey at h
  cases hd : s.dropWhile plainKey with
  | nil => rw [hd] at h; cases h
  | cons c t =>
    rw [hd] at h
    replace h : (if c = 34 then some (s.takeWhile plainKey, t) else rawStr s) = some (p, r) := h
    split at h
    · rename_i hc
      injection h with h
      injection h with h1 h2
      rw [← h1, ← h2, ← hc, ← hd]
      exact (List.takeWhile_append_dropWhile).symm
    · exact rawStr_eq h
theorem nb_quote {s p r : Bs} (h : s = p ++ 34 :: r) : nb r + 1 ≤ nb s ∧ r.length + 1 ≤ s.length := by
  rw [h, nb_append, nb_no r (by decide), List.length_append, List.length_cons]
  omega
theorem lowC_ws {c : UInt8} (h : isWS c = true) : lowC c ≠ 105 ∧ lowC c ≠ 110 := by
  rcases ws_yes h with rfl | rfl | rfl | rfl <;> decide
theorem rawNum_eq {c : UInt8} {s p r : Bs} (hw : isWS c = false) (h : rawNum (c :: s) = some (p, r)) : nb r + 1 ≤ nb (c :: s) ∧ r.length + 1 ≤ (c :: s).length := by
  have key : ∀ q t : Bs, c :: s = q ++ t → q ≠ [] → nb t + 1 ≤ nb (c :: s) ∧ t.length + 1 ≤ (c :: s).length := by
    intro q t he hq
    cases q with
    | nil => exact absurd rfl hq
    | cons d q =>
      injection he with h1 h2
      replace h2 : s = q ++ t := h2
      rw [nb_no s hw, h2, nb_append, List.length_cons, List.length_append]
      omega
  have hs : c :: s = (c :: s).takeWhile numCh ++ (c :: s).dropWhile numCh := (List.takeWhile_append_dropWhile).symm
  unfold rawNum at h
  simp only at h
  split at h
  · injection h with h
    injection h with h1 h2
    rw [← h2, nb_no s hw]
    exact ⟨Nat.le_add_left _ _, by simp⟩
  · split at h
    · split at h
      · rename_i h3
        injection h with h
        injection h with h1 h2
        rw [← h2]
        refine key ((c :: s).takeWhile numCh ++ ((c :: s).dropWhile numCh).take 3) _ ?_ ?_
        · rw [List.append_assoc, List.take_append_drop]
          exact hs
        · intro he
          have h4 := congrArg List.length he
          rw [List.length_append, List.length_take] at h4
          have := h3.1
          simp only [List.length_nil] at h4
          omega
      · cases h
    · rename_i hn
      injection h with h
      injection h with h1 h2
      rw [← h2]
      exact key _ _ hs (fun he => hn (.inl he))
theorem rawNum_ws {c : UInt8} {s : Bs} (h : isWS c = true) : rawNum (c :: s) = none := by
  have hn : numCh c = false := by rcases ws_yes h with rfl | rfl | rfl | rfl <;> rfl
  have h1 : (c :: s).takeWhile numCh = [] := List.takeWhile_cons_of_neg (by rw [hn]; exact Bool.false_ne_true)
  have h2 : (c :: s).dropWhile numCh = c :: s := List.dropWhile_cons_of_neg (by rw [hn]; exact Bool.false_ne_true)
  have hl := lowC_ws h
  have hf : ∀ x y z : UInt8, lowC c ≠ x → foldEq ((c :: s).take 3) [x, y, z] = false := fun x y z hx => by
    unfold foldEq
    rw [beq_eq_false_iff_ne]
    intro he
    rw [List.take_succ_cons, List.map_cons] at he
    injection he with he _
    exact hx he
  unfold rawNum
  simp only [h1, h2]
  rw [if_neg (by simp), if_pos (Or.inl trivial), if_neg]
  rintro ⟨_, he | he⟩
  · have := hf 105 110 102 hl.1
    rw [show sINF = [105, 110, 102] from rfl] at he
    rw [this] at he
    cases he
  · have := hf 110 97 110 hl.2
    rw [show sNAN = [110, 97, 110] from rfl] at he
    rw [this] at he
    cases he
theorem nb_drop (s : Bs) (k : Nat) : nb (s.drop k) ≤ nb s := by
  conv => rhs; rw [← List.take_append_drop k s]
  rw [nb_append]
  omega
theorem word_drop {s : Bs} {c : UInt8} (k : Nat) (hw : isWS c = false) (hk : 0 < k) : nb ((c :: s).drop k) + 1 ≤ nb (c :: s) ∧ ((c :: s).drop k).length + 1 ≤ (c :: s).length := by
  obtain ⟨k, rfl⟩ : ∃ j, k = j + 1 := ⟨k - 1, by omega⟩
  rw [List.drop_succ_cons, nb_no s hw, List.length_cons, List.length_drop]
  have := nb_drop s k
  omega
end Go.Proofs.YtgldcjmdjhghpaaGreatDoor
namespace Go.Proofs.YtgldcjmdjhghpaaGreatDoor
open Go.RowKit Go.Proofs.YtgldcjmdjhghpaaGreatDoorW.PrintWords
set_option linter.unusedVariables false
structure St (w0 : World) (pb : Nat) (vb0 : Option Nat) (n0 : Nat) (w : World) (vb : Option Nat) (n c : Nat) : Prop where
  cache : Cache w pb vb n c
  upd : Upd w0 w (Writes pb vb0 n0)
  grew : Grew w0 vb0 n0 vb n
theorem St.start {w : World} {pb n c : Nat} {vb : Option Nat} (h : Cache w pb vb n c) : St w pb vb n w vb n c := ⟨h, Upd.refl _ _, Grew.refl _ _ _⟩
theorem St.on {w0 w w' : World} {pb n0 n c : Nat} {vb0 vb : Option Nat} (h : St w0 pb vb0 n0 w vb n c) (hb : Below w.heap.size w w') : St w0 pb vb0 n0 w' vb n c :=
  ⟨h.cache.on hb, h.upd.trans (Upd.of_below hb (fun _ _ => False)) (fun _ _ _ h => h) (fun _ _ _ h => h.elim), h.grew⟩
theorem St.step {w0 w w' : World} {pb n0 n n' c c' : Nat} {vb0 vb vb' : Option Nat} (h : St w0 pb vb0 n0 w vb n c) (k : St w pb vb n w' vb' n' c') : St w0 pb vb0 n0 w' vb' n' c' :=
  ⟨k.cache, h.upd.trans k.upd (fun _ _ _ h => h) (fun b o hb hw => h.grew.writes hb hw), h.grew.trans k.grew h.upd.size⟩
theorem GotV.st {w w' : World} {pb n g c' : Nat} {vb : Option Nat} (h : GotV w pb vb n g c' w') : St w pb vb n w' (some g) (n + 1) c' := ⟨h.cache, h.upd, h.grew⟩
theorem Cache.setLive {w : World} {pb n c b o : Nat} {vb : Option Nat} (h : Cache w pb vb n c) (hb : b ≠ pb) (hl : vb = some b → o < 5 * n) (v : Value) : Cache (w.setCell ⟨b, o, none⟩ v) pb vb n c := by
  have hu := Upd.setCell w b o v (C := fun b' o' => b' = b ∧ o' = o) ⟨rfl, rfl⟩
  refine Cache.mk (hu.blkT 1 (fun hh => hb hh.1.symm) h.ty) ((hu.cell pb 1 (blkT_lt h.ty) (fun hh => hb hh.1.symm)).trans h.vs) (by rw [World.frozen?_setCell]; exact h.fr) h.le h.cm h.no (fun g e => ?_)
  obtain ⟨cs, hg, hs, hz⟩ := h.sp g e
  by_cases hgb : g = b
  · subst hgb
    refine ⟨cs.setIfInBounds o v, ?_, by simpa using hs, fun k h1 h2 j hj => ?_⟩
    · simp only [World.setCell, Array.getElem?_modify, if_true, hg, Option.map_some]
      rfl
    · rw [Array.getElem?_setIfInBounds_ne (by have := hl e; omega)]
      exact hz k h1 h2 j hj
  · refine ⟨cs, ?_, hs, hz⟩
    rw [Below.heap_setCell w ⟨b, o, none⟩ v g hgb]
    exact hg
theorem Fresh.writes {w w' : World} {pb : Nat} {vb vb' : Option Nat} {n n' b o : Nat} (h : Fresh w pb vb n w' vb' n' b o) (hb : b < w.heap.size) : Writes pb vb n b o := by
  rcases h.2.2.1 with h1 | h1
  · omega
  · exact .inr h1
theorem St.set {w0 w : World} {pb n0 n c b o : Nat} {vb0 vb : Option Nat} (h : St w0 pb vb0 n0 w vb n c) (hf : Fresh w0 pb vb0 n0 w vb n b o) (v : Value) : St w0 pb vb0 n0 (w.setCell ⟨b, o, none⟩ v) vb n c :=
  ⟨h.cache.setLive hf.1 hf.2.2.2 v, h.upd.trans (Upd.setCell w b o v (C := fun b' o' => b' = b ∧ o' = o) ⟨rfl, rfl⟩) (fun _ _ _ h => h) (fun b' o' hb hh => by rw [hh.1, hh.2]; rw [hh.1] at hb; exact hf.writes hb), h.grew⟩
/-- The cells of a value that is being made. -/
structure NewV (w0 : World) (pb : Nat) (vb0 : Option Nat) (n0 : Nat) (w : World) (vb : Option Nat) (n : Nat) (g o : Nat) : Prop where
  ty : blkT w g 106
  al : o % 5 = 0
  fresh : ∀ j, j < 5 → Fresh w0 pb vb0 n0 w vb n g (o + j)
  fr : ∀ j, j < 5 → w.frozen? ⟨g, o + j, none⟩ = false
theorem NewV.lt {w0 w : World} {pb n0 n g o : Nat} {vb0 vb : Option Nat} (h : NewV w0 pb vb0 n0 w vb n g o) : g < w.heap.size := blkT_lt h.ty
theorem GotV.newV {w w' : World} {pb n g c' : Nat} {vb : Option Nat} (h : GotV w pb vb n g c' w') : NewV w pb vb n w' (some g) (n + 1) g (5 * n) := by
  obtain ⟨cs, hg, hs, _⟩ := h.cache.sp g rfl
  refine ⟨⟨cs, hg⟩, by omega, fun j hj => ⟨fun e => ?_, (Array.getElem?_eq_some_iff.1 hg).1, ?_, fun _ => by omega⟩, fun j hj => frozen_of hg _⟩
  · subst e
    have := blkT_uniq h.cache.ty ⟨cs, hg⟩
    cases this
  · rcases h.grew with ⟨e, _⟩ | ⟨g', e, hg'⟩
    · exact .inr ⟨e.symm, by omega⟩
    · injection e with e
      subst e
      exact .inl hg'
theorem frozen_upd {w w' : World} {C : CellSet} (hu : Upd w w' C) {b o T : Nat} (p : Nat) (hn : ¬ C b p) (hb : blkT w b T) : w'.frozen? ⟨b, o, none⟩ = w.frozen? ⟨b, o, none⟩ := (blkT_frozen (hu.blkT p hn hb) o).trans (blkT_frozen hb o).symm
theorem NewV.keep {w0 w w' : World} {pb n0 n n' g o : Nat} {vb0 vb vb' : Option Nat} {C : CellSet} (h : NewV w0 pb vb0 n0 w vb n g o) (hu : Upd w w' C) (p : Nat) (hn : ¬ C g p) (hg : Grew w vb n vb' n') : NewV w0 pb vb0 n0 w' vb' n' g o :=
  ⟨hu.blkT p hn h.ty, h.al, fun j hj => (h.fresh j hj).on hu.size hg, fun j hj => (frozen_upd hu p hn h.ty).trans (h.fr j hj)⟩
theorem NewV.on {w0 w w' : World} {pb n0 n g o : Nat} {vb0 vb : Option Nat} (h : NewV w0 pb vb0 n0 w vb n g o) (hb : Below w.heap.size w w') : NewV w0 pb vb0 n0 w' vb n g o := h.keep (Upd.of_below hb (fun _ _ => False)) 0 (fun h => h) (Grew.refl _ _ _)
theorem NewV.set {w0 w : World} {pb n0 n g o b p : Nat} {vb0 vb : Option Nat} (h : NewV w0 pb vb0 n0 w vb n g o) (v : Value) : NewV w0 pb vb0 n0 (w.setCell ⟨b, p, none⟩ v) vb n g o := h.keep (Upd.setCell w b p v (C := fun b' o' => b' = b ∧ o' = p) ⟨rfl, rfl⟩) (p + 1) (fun hh => by have := hh.2; omega) (Grew.refl _ _ _)
/-- A value's cells lie apart from what a step writes. -/
theorem NewV.not_writes {w0 w : World} {pb n0 n g o : Nat} {vb0 vb : Option Nat} (h : NewV w0 pb vb0 n0 w vb n g o) (j : Nat) (hj : j < 5) : ¬ Writes pb vb n g (o + j) := (h.fresh j hj).not_writes
structure VOk (w : World) (pb : Nat) (vb : Option Nat) (n : Nat) (s : Bs) (v : JV) (r : Bs) (b o : Nat) (w' : World) (vb' : Option Nat) (n' c' : Nat) : Prop where
  st : St w pb vb n w' vb' n' c'
  tree : TreeAt w' (Fresh w pb vb n w' vb' n') b o v
  cnt : n' + nb r ≤ n + nb s
  len : r.length < s.length
  dec : nb r + 1 ≤ nb s
def VRes (w : World) (pb : Nat) (vb : Option Nat) (n : Nat) (s : Bs) (res : Option (JV × Bs)) (e : Ending) (w' : World) : Prop :=
  Upd w w' (Writes pb vb n) ∧ match res with
  | some q => ∃ b o vb' n' c', e = .returned (.tuple #[.pointer (some ⟨b, o, none⟩), .string (bStr q.2), .nilIface]) ∧ VOk w pb vb n s q.1 q.2 b o w' vb' n' c'
  | none => ∃ a g, e = .returned (.tuple #[.pointer none, .string a, errV g])
theorem VRes.yes {w w' : World} {pb n : Nat} {vb : Option Nat} {s r : Bs} {v : JV} {e : Ending} {b o n' c' : Nat} {vb' : Option Nat} (he : e = .returned (.tuple #[.pointer (some ⟨b, o, none⟩), .string (bStr r), .nilIface])) (h : VOk w pb vb n s v r b o w' vb' n' c') : VRes w pb vb n s (some (v, r)) e w' := ⟨h.st.upd, b, o, vb', n', c', he, h⟩
theorem VRes.no {w w' : World} {pb n : Nat} {vb : Option Nat} {s : Bs} {e : Ending} {a : ByteArray} {g : Nat} (hu : Upd w w' (Writes pb vb n)) (he : e = .returned (.tuple #[.pointer none, .string a, .iface 116 (.pointer (some ⟨g, 0, none⟩))])) : VRes w pb vb n s none e w' := ⟨hu, a, g, he⟩
def MaxV : Nat := 1000000000000
/-- The contracts of the three that call each other. -/
def PV (s : Bs) : Prop := ∀ (w : World) (pb n c d f : Nat) (vb : Option Nat), Cache w pb vb n c → n + nb s < MaxV → 2 * s.length < f → d ≤ 300 →
  Calls Tryz.prog 52 #[.pointer (some ⟨pb, 1, none⟩), .string (bStr s), .int .i64 d] w (VRes w pb vb n s (pVal f d s))
def pArr0 (f d : Nat) (s : Bs) : Option (JV × Bs) :=
  match skipWS s with
  | [] => none
  | c :: r => if c = 93 then some (.arr [], r) else pArr f d [] (c :: r)
def pObj0 (f d : Nat) (s : Bs) : Option (JV × Bs) :=
  match skipWS s with
  | [] => none
  | c :: r => if c = 125 then some (.obj [], r) else pObj f d [] (c :: r)
def PA (s : Bs) : Prop := ∀ (w : World) (pb n c d f : Nat) (vb : Option Nat), Cache w pb vb n c → n + nb s + 1 < MaxV → 2 * s.length + 1 < f → d ≤ 300 →
  Calls Tryz.prog 63 #[.pointer (some ⟨pb, 1, none⟩), .string (bStr s), .int .i64 d] w (VRes w pb vb n s (pArr0 f d s))
def PO (s : Bs) : Prop := ∀ (w : World) (pb n c d f : Nat) (vb : Option Nat), Cache w pb vb n c → n + nb s + 1 < MaxV → 2 * s.length + 1 < f → d ≤ 300 →
  Calls Tryz.prog 62 #[.pointer (some ⟨pb, 1, none⟩), .string (bStr s), .int .i64 d] w (VRes w pb vb n s (pObj0 f d s))
end Go.Proofs.YtgldcjmdjhghpaaGreatDoor
