/-
  The JSON reader as a plain function on bytes: values, their reading, fields by name, escapes. No program in sight.
  Words of this session: what a walk holds in memory, as one list of assertions with separate footprints ('Hold'). Over the printed words (Kd). No program in sight.
  Words of this session: the operations of a walk over 'Hold'. No program in sight.
  Words of this session: arguments read by the shape of their type (whole numbers, truth values, texts, slices, structs), as the printed words' kinds. No program in sight.
  Words of this session: bytes as UInt8. No program in sight.
  Small lemmas on lists that are compared.
  slices.Index, Contains, Equal over texts; laws.zzFits2: their contracts.
  Texts of bytes as the walk meets them: their first byte, their parts.
-/
import Derived.Test.YtgldcjmdjhghpaaGreatDoorRows
import Derived.Test.YtgldcjmdjhghpaaGreatDoorWWords
import Derived.Deep.Slices
import Derived.Deep.Fields
import Derived.ChangeSame
import Derived.SizedLaws
import Derived.ChangeSlices
import Derived.WalkSpells
import Derived.Laws.Strings
import Derived.WalkKit
import Derived.WalkLawsBesides
import Derived.Deep.QuietTactic
import Derived.BigQuiet
namespace Go.Proofs.YtgldcjmdjhghpaaGreatDoor
set_option linter.unusedVariables false
abbrev Bs := List UInt8
inductive JV where
  | str (raw : Bs)
  | num (s : Bs)
  | arr (xs : List JV)
  | obj (kvs : List (Bs × JV))
  | tru
  | fls
  | nul
def isWS (c : UInt8) : Bool := c == 32 || c == 10 || c == 9 || c == 13
def skipWS (s : Bs) : Bs := s.dropWhile isWS
def numCh (c : UInt8) : Bool := (48 ≤ c && c ≤ 57) || c == 46 || c == 45 || c == 101 || c == 69 || c == 43
def lowC (c : UInt8) : UInt8 := if 65 ≤ c ∧ c ≤ 90 then c + 32 else c
def foldEq (s small : Bs) : Bool := s.map lowC == small
def sINF : Bs := [105, 110, 102]
def sNAN : Bs := [110, 97, 110]
/-- A number, and what follows. -/
def rawNum (s : Bs) : Option (Bs × Bs) :=
  let p := s.takeWhile numCh
  let r := s.dropWhile numCh
  if r = [] then some (s, [])
  else if p = [] ∨ p = [45] ∨ p = [43] then
    if 3 ≤ r.length ∧ (foldEq (r.take 3) sINF = true ∨ foldEq (r.take 3) sNAN = true) then some (p ++ r.take 3, r.drop 3) else none
  else some (p, r)
/-- What stands ahead of the quotation mark that ends a text, and what stands behind it. -/
def scanStr : Bool → Bs → Option (Bs × Bs)
  | _, [] => none
  | e, c :: r => if c = 34 ∧ e = false then some ([], r) else (scanStr (c == 92 && !e) r).map fun q => (c :: q.1, q.2)
def rawStr (s : Bs) : Option (Bs × Bs) := scanStr false s
def plainKey (c : UInt8) : Bool := c != 34 && c != 92
def rawKey (s : Bs) : Option (Bs × Bs) :=
  match s.dropWhile plainKey with
  | [] => none
  | c :: r => if c = 34 then some (s.takeWhile plainKey, r) else rawStr s
def wTRUE : Bs := [116, 114, 117, 101]
def wFALSE : Bs := [102, 97, 108, 115, 101]
def wNULL : Bs := [110, 117, 108, 108]
mutual
/-- A value. -/
def pVal : Nat → Nat → Bs → Option (JV × Bs)
  | 0, _, _ => none
  | _ + 1, _, [] => none
  | n + 1, d, c :: r =>
    if 300 ≤ d then none
    else if c = 123 then
      match skipWS r with
      | [] => none
      | c' :: r' => if c' = 125 then some (.obj [], r') else pObj n (d + 1) [] (c' :: r')
    else if c = 91 then
      match skipWS r with
      | [] => none
      | c' :: r' => if c' = 93 then some (.arr [], r') else pArr n (d + 1) [] (c' :: r')
    else if c = 34 then (rawStr r).map fun q => (.str q.1, q.2)
    else if c = 116 then if (c :: r).take 4 = wTRUE then some (.tru, (c :: r).drop 4) else none
    else if c = 102 then if (c :: r).take 5 = wFALSE then some (.fls, (c :: r).drop 5) else none
    else if c = 110 then
      if (c :: r).take 4 = wNULL then some (.nul, (c :: r).drop 4)
      else if 3 ≤ (c :: r).length ∧ foldEq ((c :: r).take 3) sNAN = true then some (.num ((c :: r).take 3), (c :: r).drop 3) else none
    else (rawNum (c :: r)).map fun q => (.num q.1, q.2)
/-- The values of a list, from one on. -/
def pArr : Nat → Nat → List JV → Bs → Option (JV × Bs)
  | 0, _, _, _ => none
  | n + 1, d, acc, s =>
    match pVal n d (skipWS s) with
    | none => none
    | some (v, r) =>
      match skipWS r with
      | [] => none
      | c :: r' => if c = 44 then pArr n d (acc ++ [v]) r' else if c = 93 then some (.arr (acc ++ [v]), r') else none
/-- The fields of an object, from one on. -/
def pObj : Nat → Nat → List (Bs × JV) → Bs → Option (JV × Bs)
  | 0, _, _, _ => none
  | n + 1, d, acc, s =>
    match skipWS s with
    | [] => none
    | c :: r =>
      if c ≠ 34 then none
      else match rawKey r with
      | none => none
      | some (k, r1) =>
        match skipWS r1 with
        | [] => none
        | c1 :: r2 =>
          if c1 ≠ 58 then none
          else match pVal n d (skipWS r2) with
          | none => none
          | some (v, r3) =>
            match skipWS r3 with
            | [] => none
            | c2 :: r4 => if c2 = 44 then pObj n d (acc ++ [(k, v)]) r4 else if c2 = 125 then some (.obj (acc ++ [(k, v)]), r4) else none
end
/-- The whole text. -/
def pTop (s : Bs) : Option JV :=
  match pVal (2 * (skipWS s).length + 2) 0 (skipWS s) with
  | none => none
  | some (v, r) => if skipWS r = [] then some v else none
def hexV (c : UInt8) : Option Nat :=
  if 48 ≤ c ∧ c ≤ 57 then some (c.toNat - 48) else if 97 ≤ c ∧ c ≤ 102 then some (c.toNat - 87) else if 65 ≤ c ∧ c ≤ 70 then some (c.toNat - 55) else none
def hexN : Bs → Nat → Option Nat
  | [], acc => some acc
  | c :: r, acc => (hexV c).bind fun v => hexN r (acc * 16 + v)
def isSur (x : Nat) : Bool := 0xd800 ≤ x && x < 0xe000
/-- Two surrogates as one character. -/
def surr (x y : Nat) : Nat := if 0xd800 ≤ x ∧ x < 0xdc00 ∧ 0xdc00 ≤ y ∧ y < 0xe000 then (x - 0xd800) * 1024 + (y - 0xdc00) + 0x10000 else 0xfffd
/-- A character in UTF-8. -/
def utf8 (x : Nat) : Bs :=
  if x < 0x80 then [UInt8.ofNat x]
  else if x < 0x800 then [UInt8.ofNat (192 + x / 64), UInt8.ofNat (128 + x % 64)]
  else if 0xd800 ≤ x ∧ x < 0xe000 ∨ 0x10ffff < x then [239, 191, 189]
  else if x < 0x10000 then [UInt8.ofNat (224 + x / 4096), UInt8.ofNat (128 + x / 64 % 64), UInt8.ofNat (128 + x % 64)]
  else [UInt8.ofNat (240 + x / 262144), UInt8.ofNat (128 + x / 4096 % 64), UInt8.ofNat (128 + x / 64 % 64), UInt8.ofNat (128 + x % 64)]
/-- What the character behind a reverse solidus makes, and what is left. -/
def escStep (c : UInt8) (r : Bs) : Bs × Bs :=
  if c = 34 then ([34], r) else if c = 92 then ([92], r) else if c = 47 then ([47], r) else if c = 98 then ([8], r) else if c = 102 then ([12], r) else if c = 110 then ([10], r) else if c = 114 then ([13], r) else if c = 116 then ([9], r)
  else if c = 117 then
    if r.length < 4 then ([92, 117], r)
    else match hexN (r.take 4) 0 with
    | none => ([92, 117], r)
    | some x =>
      if isSur x = false then (utf8 x, r.drop 4)
      else if (r.drop 4).length < 6 ∨ (r.drop 4).take 2 ≠ [92, 117] then ([92, 117] ++ r.take 4, r.drop 4)
      else match hexN (((r.drop 4).drop 2).take 4) 0 with
      | none => ([92, 117] ++ r.take 4, r.drop 4)
      | some y => (utf8 (surr x y), (r.drop 4).drop 6)
  else ([92, c], r)
def noBack (c : UInt8) : Bool := c != 92
mutual
def unescB : Nat → Bs → Bs
  | 0, _ => []
  | _ + 1, [] => []
  | n + 1, c :: r => (escStep c r).1 ++ unescT n (escStep c r).2
def unescT : Nat → Bs → Bs
  | 0, s => s
  | n + 1, s =>
    match s.dropWhile noBack with
    | [] => s
    | _ :: q => s.takeWhile noBack ++ unescB n q
end
/-- A text with its escapes undone. -/
def unesc (s : Bs) : Bs := unescT (2 * s.length + 1) s
/-- The field that a name finds. -/
def oGet (kvs : List (Bs × JV)) (key : Bs) : Option JV :=
  match (if key.all noBack = true then kvs.find? (fun p => p.1 == key) else none) with
  | some p => some p.2
  | none => (kvs.find? (fun p => unesc p.1 == key)).map (·.2)
def JV.get : JV → Bs → Option JV
  | .obj kvs, key => oGet kvs key
  | _, _ => none
end Go.Proofs.YtgldcjmdjhghpaaGreatDoor
namespace Go.Proofs.YtgldcjmdjhghpaaGreatDoor
open Go.RowKit Go.Proofs.YtgldcjmdjhghpaaGreatDoorW.PrintWords
set_option linter.unusedVariables false
set_option linter.unusedSimpArgs false

/-- What stands in some blocks. -/
structure Asrt where
  p : World → (Nat → Prop) → Prop
  loc : ∀ {w w1 : World} {f : Nat → Prop}, p w f → (∀ k, f k → k < w.heap.size → w1.heap[k]? = w.heap[k]?) → p w1 f
  mono : ∀ {w : World} {f f' : Nat → Prop}, (∀ k, f k → f' k) → p w f → p w f'
  bnd : ∀ {w : World} {f : Nat → Prop}, p w f → p w (fun k => f k ∧ k < w.heap.size)

/-- A row of the call's own. -/
def Asrt.row {α : Type} (d : Kd α) (e : Nat) (v : Value) (xs : List α) : Asrt where
  p := fun w f => d.R e w 0 f v xs
  loc := fun h hm => Kd.R_step h hm
  mono := fun hm h => Kd.R_mono h hm
  bnd := fun h => Kd.R_mono (Kd.R_bound h) (fun _ hk => ⟨hk.1, hk.2.2.1⟩)

/-- A block, as it is. -/
def Asrt.blk (g : Nat) (o : Obj) : Asrt where
  p := fun w f => f g ∧ w.heap[g]? = some o
  loc := fun h hm => ⟨h.1, (hm _ h.1 (blk_lt h.2)).trans h.2⟩
  mono := fun hm h => ⟨hm _ h.1, h.2⟩
  bnd := fun h => ⟨⟨h.1, blk_lt h.2⟩, h.2⟩

/-- Nothing. -/
def Asrt.emp : Asrt where
  p := fun _ _ => True
  loc := fun _ _ => trivial
  mono := fun _ _ => trivial
  bnd := fun _ => trivial

structure Chg (w w' : World) (f : Nat → Prop) : Prop where
  os : w'.os = w.os
  tape : w'.tape = w.tape
  output : w'.output = w.output
  size : w.heap.size ≤ w'.heap.size
  block : ∀ k, k < w.heap.size → ¬ f k → w'.heap[k]? = w.heap[k]?

theorem Chg.of_below {w w' : World} (h : Below w.heap.size w w') (f : Nat → Prop) : Chg w w' f := ⟨h.os, h.tape, h.output, h.size, fun k hk _ => h.block k hk⟩
theorem Chg.of_grown {w w' : World} {row : Option Nat} (h : w.grownBy w' row) {f : Nat → Prop} (hf : ∀ k, row = some k → f k) : Chg w w' f :=
  ⟨h.os, h.tape, h.output, h.size, fun k hk hn => h.block k hk (fun e => hn (hf k e.symm))⟩
theorem Chg.trans {w w1 w2 : World} {f : Nat → Prop} (h : Chg w w1 f) (k : Chg w1 w2 f) : Chg w w2 f :=
  ⟨k.os.trans h.os, k.tape.trans h.tape, k.output.trans h.output, Nat.le_trans h.size k.size, fun i hi hn => (k.block i (Nat.lt_of_lt_of_le hi h.size) hn).trans (h.block i hi hn)⟩

/-- Below B all is as it was in w0; the assertions hold, each in blocks of its own from B on. -/
structure Hold (w0 : World) (B : Nat) (w : World) (L : List Asrt) : Prop where
  below : Below B w0 w
  le : B ≤ w.heap.size
  own : ∃ F : Nat → Nat → Prop, (∀ (i : Nat) (a : Asrt), L[i]? = some a → a.p w (F i)) ∧ (∀ i k, F i k → B ≤ k ∧ k < w.heap.size) ∧ (∀ i j k, F i k → F j k → i = j)

section
variable {w0 w w' : World} {B : Nat} {L : List Asrt}
theorem Hold.start (w : World) : Hold w w.heap.size w [] := ⟨Below.refl _ _, Nat.le_refl _, fun _ _ => False, fun i a h => by simp at h, fun _ _ h => h.elim, fun _ _ _ h => h.elim⟩
theorem Hold.below_of_chg (hS : Hold w0 B w L) {f : Nat → Prop} (hc : Chg w w' f) (hf : ∀ k, f k → B ≤ k) : Below B w0 w' :=
  hS.below.trans ⟨hc.os, hc.tape, hc.output, hc.size, fun k hk => hc.block k (Nat.lt_of_lt_of_le hk hS.le) (fun h => by have := hf k h; omega)⟩
/-- Assertion i becomes another one. -/
theorem Hold.upd (hS : Hold w0 B w L) (i : Nat) {a a' : Asrt} (hi : L[i]? = some a)
    (H : ∀ f : Nat → Prop, a.p w f → ∃ f' : Nat → Prop, a'.p w' f' ∧ (∀ k, f' k → f k ∨ w.heap.size ≤ k) ∧ Chg w w' f) : Hold w0 B w' (L.set i a') := by
  obtain ⟨F, h1, h2, h3⟩ := hS.own
  obtain ⟨f', hp, hf', hc⟩ := H (F i) (h1 i a hi)
  have hlt : i < L.length := (List.getElem?_eq_some_iff.1 hi).1
  refine ⟨hS.below_of_chg hc (fun k hk => (h2 i k hk).1), Nat.le_trans hS.le hc.size, fun j => if j = i then (fun k => f' k ∧ k < w'.heap.size) else F j, ?_, ?_, ?_⟩
  · intro j b hj
    rw [List.getElem?_set] at hj
    by_cases e : i = j
    · subst e
      rw [if_pos rfl, if_pos hlt] at hj
      injection hj with hj
      subst hj
      simp only [if_true]
      exact a'.bnd hp
    · rw [if_neg e] at hj
      have e' : ¬ j = i := fun h => e h.symm
      simp only [if_neg e']
      refine b.loc (h1 j b hj) (fun k hk hks => hc.block k hks (fun hki => e (h3 _ _ _ hki hk)))
  · intro j k hk
    by_cases e : j = i
    · simp only [if_pos e] at hk
      refine ⟨?_, hk.2⟩
      rcases hf' k hk.1 with h | h
      · exact (h2 i k h).1
      · exact Nat.le_trans hS.le h
    · simp only [if_neg e] at hk
      exact ⟨(h2 j k hk).1, Nat.lt_of_lt_of_le (h2 j k hk).2 hc.size⟩
  · intro j l k hj hl
    by_cases ej : j = i <;> by_cases el : l = i
    · rw [ej, el]
    · simp only [if_pos ej] at hj
      simp only [if_neg el] at hl
      rcases hf' k hj.1 with h | h
      · exact absurd (h3 _ _ _ hl h) el
      · have := (h2 l k hl).2; omega
    · simp only [if_neg ej] at hj
      simp only [if_pos el] at hl
      rcases hf' k hl.1 with h | h
      · exact absurd (h3 _ _ _ hj h) ej
      · have := (h2 j k hj).2; omega
    · simp only [if_neg ej] at hj
      simp only [if_neg el] at hl
      exact h3 _ _ _ hj hl
/-- Something new. -/
theorem Hold.push (hS : Hold w0 B w L) {a : Asrt} {f' : Nat → Prop} (hp : a.p w' f') (hf' : ∀ k, f' k → w.heap.size ≤ k) (hc : Chg w w' (fun _ => False)) : Hold w0 B w' (a :: L) := by
  obtain ⟨F, h1, h2, h3⟩ := hS.own
  refine ⟨hS.below_of_chg hc (fun k hk => hk.elim), Nat.le_trans hS.le hc.size, fun j => match j with | 0 => (fun k => f' k ∧ k < w'.heap.size) | j + 1 => F j, ?_, ?_, ?_⟩
  · intro j b hj
    cases j with
    | zero => simp at hj; subst hj; exact a.bnd hp
    | succ j => exact b.loc (h1 j b (by simpa using hj)) (fun k _ hks => hc.block k hks (fun h => h))
  · intro j k hk
    cases j with
    | zero => exact ⟨Nat.le_trans hS.le (hf' k hk.1), hk.2⟩
    | succ j => exact ⟨(h2 j k hk).1, Nat.lt_of_lt_of_le (h2 j k hk).2 hc.size⟩
  · intro j l k hj hl
    cases j <;> cases l
    · rfl
    · have := hf' k hj.1; have := (h2 _ k hl).2; omega
    · have := hf' k hl.1; have := (h2 _ k hj).2; omega
    · rw [h3 _ _ _ hj hl]
theorem Hold.keep (hS : Hold w0 B w L) (hc : Chg w w' (fun _ => False)) : Hold w0 B w' L := by
  obtain ⟨F, h1, h2, h3⟩ := hS.own
  exact ⟨hS.below_of_chg hc (fun k hk => hk.elim), Nat.le_trans hS.le hc.size, F, fun j b hj => b.loc (h1 j b hj) (fun k _ hks => hc.block k hks (fun h => h)), fun j k hk => ⟨(h2 j k hk).1, Nat.lt_of_lt_of_le (h2 j k hk).2 hc.size⟩, h3⟩
theorem Hold.drew (hS : Hold w0 B w L) : Hold w0 B w.drew L := hS.keep ⟨rfl, rfl, rfl, Nat.le_refl _, fun _ _ _ => rfl⟩
theorem Hold.drewN (hS : Hold w0 B w L) (n : Nat) : Hold w0 B (w.drewN n) L := hS.keep ⟨rfl, rfl, rfl, Nat.le_refl _, fun _ _ _ => rfl⟩
theorem Hold.of_below (hS : Hold w0 B w L) (h : Below w.heap.size w w') : Hold w0 B w' L := hS.keep (Chg.of_below h _)
/-- A new block that nobody will ask for. -/
theorem Hold.alloc_ (hS : Hold w0 B w L) (o : Obj) : Hold w0 B (w.alloc o) L := hS.keep ⟨rfl, rfl, rfl, by simp, fun k hk _ => Below.heap_alloc _ _ _ hk⟩
theorem Hold.alloc (hS : Hold w0 B w L) (o : Obj) : Hold w0 B (w.alloc o) (.blk w.heap.size o :: L) :=
  hS.push (f' := fun k => k = w.heap.size) ⟨rfl, blk_new w o⟩ (fun k hk => by omega) ⟨rfl, rfl, rfl, by simp, fun k hk _ => Below.heap_alloc _ _ _ hk⟩
/-- Some of them, in another order. -/
theorem Hold.pick (hS : Hold w0 B w L) (σ : List Nat) (hσ : σ.Nodup) {L' : List Asrt} (h : L'.map some = σ.map (fun i => L[i]?)) : Hold w0 B w L' := by
  obtain ⟨F, h1, h2, h3⟩ := hS.own
  have hlen : L'.length = σ.length := by simpa using congrArg List.length h
  refine ⟨hS.below, hS.le, fun j => match σ[j]? with | some i => F i | none => fun _ => False, ?_, ?_, ?_⟩
  · intro j b hj
    have e : (σ.map (fun i => L[i]?))[j]? = some (some b) := by rw [← h]; simp [hj]
    rw [List.getElem?_map] at e
    cases hs : σ[j]? with
    | none => rw [hs] at e; simp at e
    | some i => rw [hs] at e; simp only [hs]; exact h1 i b (by simpa using e)
  · intro j k hk
    cases hs : σ[j]? with
    | none => rw [hs] at hk; exact hk.elim
    | some i => rw [hs] at hk; exact h2 i k hk
  · intro j l k hj hl
    cases hs : σ[j]? with
    | none => rw [hs] at hj; exact hj.elim
    | some i =>
      cases ht : σ[l]? with
      | none => rw [ht] at hl; exact hl.elim
      | some m =>
        rw [hs] at hj
        rw [ht] at hl
        have : i = m := h3 _ _ _ hj hl
        subst this
        have a1 := List.getElem?_eq_some_iff.1 hs
        have a2 := List.getElem?_eq_some_iff.1 ht
        obtain ⟨b1, c1⟩ := a1
        obtain ⟨b2, c2⟩ := a2
        exact (List.getElem_inj hσ).1 (c1.trans c2.symm)
theorem Hold.tail {a : Asrt} (hS : Hold w0 B w (a :: L)) : Hold w0 B w L := by
  obtain ⟨F, h1, h2, h3⟩ := hS.own
  exact ⟨hS.below, hS.le, fun j => F (j + 1), fun j b hj => h1 (j + 1) b (by simpa using hj), fun j k hk => h2 _ k hk, fun i j k hi hj => by have := h3 _ _ _ hi hj; omega⟩
theorem Hold.get (hS : Hold w0 B w L) (i : Nat) {a : Asrt} (hi : L[i]? = some a) : ∃ f : Nat → Prop, a.p w f ∧ ∀ k, f k → B ≤ k ∧ k < w.heap.size := by
  obtain ⟨F, h1, h2, _⟩ := hS.own
  exact ⟨F i, h1 i a hi, h2 i⟩
/-- What the printed contracts leave: a row that is new since w. -/
theorem Hold.new {α : Type} {d : Kd α} {e : Nat} {ok : Nat → Prop} {v : Value} {xs : List α} (hS : Hold w0 B w L) (hR : d.R e w' w.heap.size ok v xs) (hb : Below w.heap.size w w') : Hold w0 B w' (.row d e v xs :: L) :=
  hS.push (f' := fun k => w.heap.size ≤ k) (Kd.R_mono (Kd.R_lower (Kd.R_bound hR) (Nat.zero_le _)) (fun k hk => hk.2.1)) (fun k hk => hk) (Chg.of_below hb _)
theorem Hold.nil {α : Type} (d : Kd α) (e : Nat) (hS : Hold w0 B w L) : Hold w0 B w (.row d e (.slice none 0 0) [] :: L) :=
  hS.push (f' := fun _ => False) (Kd.R_nil d e w 0 _) (fun k hk => hk.elim) ⟨rfl, rfl, rfl, Nat.le_refl _, fun _ _ _ => rfl⟩
/-- What is read below B reads as it did. -/
theorem Hold.C {α : Type} {d : Kd α} {A : Option Addr} {n : Nat} {xs : List α} (hS : Hold w0 w0.heap.size w L) (h : d.C w0 A n xs) : d.C w A n xs := Kd.C_below h hS.below
theorem Hold.reads {α : Type} {d : Kd α} {e : Nat} {v : Value} {xs : List α} (hS : Hold w0 B w L) (i : Nat) (hi : L[i]? = some (.row d e v xs)) : ∃ A c, v = .slice A xs.length c ∧ xs.length ≤ c ∧ d.C w A xs.length xs := by
  obtain ⟨f, hp, _⟩ := hS.get i hi
  exact Kd.R_reads hp
theorem Hold.blk {g : Nat} {o : Obj} (hS : Hold w0 B w L) (i : Nat) (hi : L[i]? = some (.blk g o)) : w.heap[g]? = some o := by
  obtain ⟨f, hp, _⟩ := hS.get i hi
  exact hp.2
theorem Hold.blk_lt {g : Nat} {o : Obj} (hS : Hold w0 B w L) (i : Nat) (hi : L[i]? = some (.blk g o)) : g < w.heap.size := (Array.getElem?_eq_some_iff.1 (hS.blk i hi)).1
theorem Hold.blk_ge {g : Nat} {o : Obj} (hS : Hold w0 B w L) (i : Nat) (hi : L[i]? = some (.blk g o)) : B ≤ g := by
  obtain ⟨f, hp, hb⟩ := hS.get i hi
  exact (hb g hp.1).1
/-- A cell of a block, for the walk: what it holds, that it may be written, that its block is there. -/
theorem Hold.cell {g : Nat} {cs : Array Value} {t : Nat} (hS : Hold w0 B w L) (i : Nat) (hi : L[i]? = some (.blk g (.cells cs t (0, 0)))) (j : Nat) (hj : j < cs.size) :
    w.cell? ⟨g, j, none⟩ = some cs[j] ∧ w.frozen? ⟨g, j, none⟩ = false := by
  have h := hS.blk i hi
  constructor
  · simp [World.cell?, h, hj]
  · simp [World.frozen?, h]
/-- A store. -/
theorem Hold.store {g : Nat} {cs : Array Value} {t : Nat} {fr : Nat × Nat} (hS : Hold w0 B w L) (i : Nat) (hi : L[i]? = some (.blk g (.cells cs t fr))) (j : Nat) (u : Value) :
    Hold w0 B (w.setCell ⟨g, j, none⟩ u) (L.set i (.blk g (.cells (cs.setIfInBounds j u) t fr))) :=
  hS.upd i hi (fun f hp => ⟨f, ⟨hp.1, by
    have h := hp.2
    simp only [World.setCell, Array.getElem?_modify, if_true, h, Option.map_some]
    rfl⟩, fun k hk => .inl hk, ⟨rfl, rfl, rfl, by simp [World.setCell], fun k _ hn => Below.heap_setCell w ⟨g, j, none⟩ u k (fun e => hn (by have e' : k = g := e; rw [e']; exact hp.1))⟩⟩)
end
end Go.Proofs.YtgldcjmdjhghpaaGreatDoor
namespace Go.Proofs.YtgldcjmdjhghpaaGreatDoor
open Go.RowKit Go.Proofs.YtgldcjmdjhghpaaGreatDoorW.PrintWords
set_option linter.unusedVariables false
set_option linter.unusedSimpArgs false

section
variable {w0 w : World} {B : Nat} {L : List Asrt}
theorem Hold.focus (hS : Hold w0 B w L) (i : Nat) {a : Asrt} (hi : L[i]? = some a) : ∃ f : Nat → Prop, a.p w f ∧ (∀ k, f k → B ≤ k ∧ k < w.heap.size) ∧
    ∀ (w' : World) (a' : Asrt) (f' : Nat → Prop), a'.p w' f' → (∀ k, f' k → f k ∨ w.heap.size ≤ k) → Chg w w' f → Hold w0 B w' (L.set i a') := by
  obtain ⟨F, h1, h2, h3⟩ := hS.own
  refine ⟨F i, h1 i a hi, h2 i, fun w' a' f' hp hf' hc => ?_⟩
  have hS' : Hold w0 B w L := ⟨hS.below, hS.le, F, h1, h2, h3⟩
  have hlt : i < L.length := (List.getElem?_eq_some_iff.1 hi).1
  refine ⟨hS'.below_of_chg hc (fun k hk => (h2 i k hk).1), Nat.le_trans hS.le hc.size, fun j => if j = i then (fun k => f' k ∧ k < w'.heap.size) else F j, ?_, ?_, ?_⟩
  · intro j b hj
    rw [List.getElem?_set] at hj
    by_cases e : i = j
    · subst e
      rw [if_pos rfl, if_pos hlt] at hj
      injection hj with hj
      subst hj
      simp only [if_true]
      exact a'.bnd hp
    · rw [if_neg e] at hj
      have e' : ¬ j = i := fun h => e h.symm
      simp only [if_neg e']
      exact b.loc (h1 j b hj) (fun k hk hks => hc.block k hks (fun hki => e (h3 _ _ _ hki hk)))
  · intro j k hk
    by_cases e : j = i
    · simp only [if_pos e] at hk
      refine ⟨?_, hk.2⟩
      rcases hf' k hk.1 with h | h
      · exact (h2 i k h).1
      · exact Nat.le_trans hS.le h
    · simp only [if_neg e] at hk
      exact ⟨(h2 j k hk).1, Nat.lt_of_lt_of_le (h2 j k hk).2 hc.size⟩
  · intro j l k hj hl
    by_cases ej : j = i <;> by_cases el : l = i
    · rw [ej, el]
    · simp only [if_pos ej] at hj
      simp only [if_neg el] at hl
      rcases hf' k hj.1 with h | h
      · exact absurd (h3 _ _ _ hl h) el
      · have := (h2 l k hl).2; omega
    · simp only [if_neg ej] at hj
      simp only [if_pos el] at hl
      rcases hf' k hl.1 with h | h
      · exact absurd (h3 _ _ _ hj h) ej
      · have := (h2 j k hj).2; omega
    · simp only [if_neg ej] at hj
      simp only [if_neg el] at hl
      exact h3 _ _ _ hj hl
/-- What a callee has made since w, beside what was held. -/
theorem Hold.app {w' : World} {M : List Asrt} (hS : Hold w0 B w L) (hN : Hold w w.heap.size w' M) : Hold w0 B w' (M ++ L) := by
  obtain ⟨F, h1, h2, h3⟩ := hS.own
  obtain ⟨G, g1, g2, g3⟩ := hN.own
  have hb := hN.below
  refine ⟨hS.below_of_chg (Chg.of_below hb (fun _ => False)) (fun k hk => hk.elim), Nat.le_trans hS.le hb.size, fun i => if i < M.length then G i else F (i - M.length), ?_, ?_, ?_⟩
  · intro i a hi
    by_cases e : i < M.length
    · simp only [if_pos e]
      exact g1 i a (by rwa [List.getElem?_append_left e] at hi)
    · simp only [if_neg e]
      rw [List.getElem?_append_right (by omega)] at hi
      exact a.loc (h1 _ a hi) (fun k _ hks => hb.block k hks)
  · intro i k hk
    by_cases e : i < M.length
    · simp only [if_pos e] at hk
      exact ⟨Nat.le_trans hS.le (g2 i k hk).1, (g2 i k hk).2⟩
    · simp only [if_neg e] at hk
      exact ⟨(h2 _ k hk).1, Nat.lt_of_lt_of_le (h2 _ k hk).2 hb.size⟩
  · intro i j k hi hj
    by_cases ei : i < M.length <;> by_cases ej : j < M.length
    · simp only [if_pos ei] at hi
      simp only [if_pos ej] at hj
      exact g3 _ _ _ hi hj
    · simp only [if_pos ei] at hi
      simp only [if_neg ej] at hj
      have := (g2 i k hi).1; have := (h2 _ k hj).2; omega
    · simp only [if_neg ei] at hi
      simp only [if_pos ej] at hj
      have := (g2 j k hj).1; have := (h2 _ k hi).2; omega
    · simp only [if_neg ei] at hi
      simp only [if_neg ej] at hj
      have := h3 _ _ _ hi hj; omega
/-- The cell of a variable of one cell, for the walk. -/
theorem Hold.cell1 {g t : Nat} {v : Value} (hS : Hold w0 B w L) (i : Nat) (hi : L[i]? = some (.blk g (.cells #[v] t (0, 0)))) : w.cell? ⟨g, 0, none⟩ = some v ∧ w.frozen? ⟨g, 0, none⟩ = false ∧ g < w.heap.size :=
  ⟨(hS.cell i hi 0 (by simp)).1, (hS.cell i hi 0 (by simp)).2, hS.blk_lt i hi⟩
theorem Hold.down (hS : Hold w0 B w L) : w0.heap.size ≤ w.heap.size := hS.below.size
/-- A block that holds just a row's cells, as a row. -/
theorem Hold.toRow {α : Type} {d : Kd α} {e g n c : Nat} {cs : Array Value} {xs : List α} (hS : Hold w0 B w L) (i : Nat) (hi : L[i]? = some (.blk g (.cells cs e (0, 0))))
    (hrep : Reps (d.M w 0 (fun _ => False)) d.sz xs (cs.toList.take (n * d.sz))) (hn : n = xs.length) (hnc : n ≤ c) (hc : c ≤ maxLen) (hsz : cs.size = c * d.sz) : Hold w0 B w (L.set i (.row d e (.slice (some ⟨g, 0, none⟩) n c) xs)) := by
  obtain ⟨f, hp, hb, hk⟩ := hS.focus i hi
  subst hn
  refine hk w _ f ?_ (fun k h => .inl h) ⟨rfl, rfl, rfl, Nat.le_refl _, fun _ _ _ => rfl⟩
  refine ⟨fun k h => ?_, cs.toList.take (xs.length * d.sz), ⟨?_, .inr ⟨g, c, cs, rfl, Nat.zero_le _, hp.2, hnc, hc, hsz, rfl⟩⟩, hrep.imp_ (fun _ _ h => d.M_mono (fun k hk => hk.elim) h)⟩
  · have : g = k := by simpa [Value.ownBlock] using h
    subst this
    exact hp.1
  · rw [hrep.1]
/-- A row as a block, if it is not nil. -/
theorem Hold.toBlk {α : Type} {enc : α → Value} {h1 : ∀ x, (enc x).oneCell' = true} {e : Nat} {v : Value} {xs : List α} (hS : Hold w0 B w L) (i : Nat) (hi : L[i]? = some (.row (Kd.scalar enc h1) e v xs)) (hne : xs ≠ []) :
    ∃ g c cs, v = .slice (some ⟨g, 0, none⟩) xs.length c ∧ xs.length ≤ c ∧ c ≤ maxLen ∧ cs.size = c ∧ cs.toList.take xs.length = xs.map enc ∧ Hold w0 B w (L.set i (.blk g (.cells cs e (0, 0)))) := by
  obtain ⟨f, hp, hb, hk⟩ := hS.focus i hi
  obtain ⟨h0, inner, ho, hr⟩ := hp
  have hin : inner = xs.map enc := by
    apply List.ext_getElem?
    intro j
    have hl := hr.1
    have h2 := hr.2
    simp only [Kd.scalar, Nat.mul_one] at hl h2
    rcases Nat.lt_or_ge j xs.length with hj | hj
    · have h3 := h2 j xs[j] (List.getElem?_eq_getElem hj)
      rw [List.getElem?_map, List.getElem?_eq_getElem hj, List.getElem?_eq_getElem (by omega)]
      have h4 : (List.take 1 (List.drop j inner)) = [inner[j]'(by omega)] := by
        rw [List.drop_eq_getElem_cons (by omega)]
        rfl
      rw [h4] at h3
      simpa using h3
    · rw [List.getElem?_map, List.getElem?_eq_none hj, List.getElem?_eq_none (by omega)]
      rfl
  rcases ho.2 with ⟨_, hn⟩ | ⟨g, cap, cur, rfl, _, hh, hnc, hcm, hcs, htake⟩
  · exact absurd (List.eq_nil_of_length_eq_zero hn) hne
  · refine ⟨g, cap, cur, rfl, hnc, hcm, by simpa [Kd.scalar] using hcs, ?_, hk w _ f ⟨h0 g (by simp [Value.ownBlock]), hh⟩ (fun k h => .inl h) ⟨rfl, rfl, rfl, Nat.le_refl _, fun _ _ _ => rfl⟩⟩
    rw [← hin, ← htake]
    simp [Kd.scalar]
/-- An element of a row of pairs. -/
theorem C2_get {α β : Type} {e1 : α → Value} {e2 : β → Value} {h1 : ∀ x, (e1 x).oneCell' = true} {h2 : ∀ x, (e2 x).oneCell' = true} {A : Option Addr} {n : Nat} {xs : List (α × β)} (h : (Kd.pair (Kd.scalar e1 h1) (Kd.scalar e2 h2)).C w A n xs) (k : Nat) (hk : k < xs.length) :
    ∃ ad, A = some ad ∧ w.cell? (ad.add (k * 2)) = some (e1 xs[k].1) ∧ w.cell? ⟨(ad.add (k * 2)).block, (ad.add (k * 2)).off + 1, none⟩ = some (e2 xs[k].2) := by
  obtain ⟨ad, c, e, hl, hK, hc⟩ := Kd.C_get h xs[k] (k : Int) (by omega) (by have := h.1; omega)
  simp only [Int.toNat_natCast, List.getD_eq_getElem?_getD, List.getElem?_eq_getElem hk, Option.getD_some] at hK hc
  obtain ⟨c0, c1, rfl, rfl, rfl⟩ := hK
  refine ⟨ad, e, hc 0 _ rfl, ?_⟩
  rw [← add_field _ _ 1 (by omega)]
  exact hc 1 _ rfl
theorem C1_get {α : Type} {e1 : α → Value} {h1 : ∀ x, (e1 x).oneCell' = true} {A : Option Addr} {n : Nat} {xs : List α} (h : (Kd.scalar e1 h1).C w A n xs) (k : Nat) (hk : k < xs.length) :
    ∃ ad, A = some ad ∧ w.cell? (ad.add k) = some (e1 xs[k]) := by
  obtain ⟨ad, c, e, hl, hK, hc⟩ := Kd.C_get h xs[k] (k : Int) (by omega) (by have := h.1; omega)
  simp only [Int.toNat_natCast, List.getD_eq_getElem?_getD, List.getElem?_eq_getElem hk, Option.getD_some] at hK hc
  refine ⟨ad, e, ?_⟩
  have hK' : c = [e1 xs[k]] := hK
  subst hK'
  have := hc 0 _ rfl
  simpa [Kd.scalar] using this
theorem reps_scalar {α : Type} {enc : α → Value} {h1 : ∀ x, (enc x).oneCell' = true} (w : World) (b : Nat) (ok : Nat → Prop) (xs : List α) : Reps ((Kd.scalar enc h1).M w b ok) (Kd.scalar enc h1).sz xs (xs.map enc) := by
  refine ⟨by simp [Kd.scalar], fun j p hj => ?_⟩
  have hlt := (List.getElem?_eq_some_iff.1 hj).1
  have hp := (List.getElem?_eq_some_iff.1 hj).2
  simp only [Kd.scalar, Nat.mul_one]
  rw [List.drop_eq_getElem_cons (by simpa using hlt)]
  simp [hp]
theorem reps_cons {α : Type} {R : α → List Value → Prop} {size : Nat} {p : α} {ps : List α} {c cs : List Value} (hp : R p c) (hc : c.length = size) (h : Reps R size ps cs) : Reps R size (p :: ps) (c ++ cs) := by
  refine ⟨by rw [List.length_append, h.1, hc, List.length_cons, Nat.succ_mul, Nat.add_comm], fun j q hj => ?_⟩
  cases j with
  | zero =>
    have : p = q := by simpa using hj
    subst this
    rw [Nat.zero_mul, List.drop_zero, ← hc, List.take_left]
    exact hp
  | succ j =>
    have h2 := h.2 j q (by simpa using hj)
    rw [Nat.succ_mul, Nat.add_comm, ← List.drop_drop, ← hc, List.drop_left, hc]
    exact h2
theorem reps_pair {α β : Type} {e1 : α → Value} {e2 : β → Value} {h1 : ∀ x, (e1 x).oneCell' = true} {h2 : ∀ x, (e2 x).oneCell' = true} (w : World) (b : Nat) (ok : Nat → Prop) :
    ∀ xs : List (α × β), Reps ((Kd.pair (Kd.scalar e1 h1) (Kd.scalar e2 h2)).M w b ok) (Kd.pair (Kd.scalar e1 h1) (Kd.scalar e2 h2)).sz xs (xs.flatMap fun x => [e1 x.1, e2 x.2])
  | [] => Reps.none _ _
  | x :: r => by
    rw [List.flatMap_cons]
    exact reps_cons ⟨[e1 x.1], [e2 x.2], rfl, rfl, rfl⟩ rfl (reps_pair w b ok r)
/-- A literal row, read. -/
theorem C_lit {α : Type} {d : Kd α} (w : World) (e g : Nat) (hg : w.heap.size = g) (xs : List α) (cs : Array Value) (hrep : Reps (d.M (w.alloc (.cells cs e)) 0 (fun _ => False)) d.sz xs cs.toList) (hm : xs.length ≤ maxLen) : d.C (w.alloc (.cells cs e)) (some ⟨g, 0, none⟩) xs.length xs := by
  subst hg
  have h := ((Hold.start w).alloc (.cells cs e)).toRow 0 (d := d) (n := xs.length) (c := xs.length) (xs := xs) rfl (by rw [← hrep.1, List.take_length]; exact hrep) rfl (Nat.le_refl _) hm (by rw [← hrep.1]; simp)
  obtain ⟨A, c, he, _, hC⟩ := h.reads 0 rfl
  injection he with he
  subst he
  exact hC
theorem C1_lit {α : Type} {enc : α → Value} {h1 : ∀ x, (enc x).oneCell' = true} (w : World) (e g : Nat) (hg : w.heap.size = g) (xs : List α) (hm : xs.length ≤ maxLen) : (Kd.scalar enc h1).C (w.alloc (.cells (xs.map enc).toArray e)) (some ⟨g, 0, none⟩) xs.length xs :=
  C_lit w e g hg xs _ (reps_scalar _ _ _ xs) hm

/-- A row that is not empty: where it stands. -/
theorem Hold.form {α : Type} {d : Kd α} {e : Nat} {v : Value} {xs : List α} (hS : Hold w0 B w L) (i : Nat) (hi : L[i]? = some (.row d e v xs)) (hne : 0 < xs.length) :
    ∃ g c, v = .slice (some ⟨g, 0, none⟩) xs.length c ∧ xs.length ≤ c ∧ g < w.heap.size ∧ B ≤ g ∧ ∀ o, w.frozen? ⟨g, o, none⟩ = false := by
  obtain ⟨f, hp, hb⟩ := hS.get i hi
  obtain ⟨h0, inner, ho, hr⟩ := hp
  rcases ho.2 with ⟨_, hn⟩ | ⟨g, cap, cur, rfl, _, hh, hnc, hcm, hcs, htake⟩
  · omega
  · have hg := hb g (h0 g (by simp [Value.ownBlock]))
    exact ⟨g, cap, rfl, hnc, hg.2, hg.1, fun o => by simp [World.frozen?, hh]⟩
theorem setCells_one (w : World) (g o : Nat) (u : Value) : w.setCells g o [u] = w.setCell ⟨g, o, none⟩ u := rfl
/-- A store into a cell of a row. -/
theorem Hold.setCell {α : Type} {d : Kd α} {e g n cap : Nat} {xs : List α} (hS : Hold w0 B w L) (i : Nat) (hi : L[i]? = some (.row d e (.slice (some ⟨g, 0, none⟩) n cap) xs)) (k j : Nat) (hk : k < n) (u : Value) (x' : α) (hj : j < d.sz)
    (c : List Value) (hcl : c.length = d.sz) (hcc : ∀ j u, c[j]? = some u → w.cell? ⟨g, k * d.sz + j, none⟩ = some u) (hM : d.M w 0 (fun _ => False) x' (c.set j u)) :
    Hold w0 B (w.setCell ⟨g, k * d.sz + j, none⟩ u) (L.set i (.row d e (.slice (some ⟨g, 0, none⟩) n cap) (xs.set k x'))) := by
  obtain ⟨f, hp, hb, hF⟩ := hS.focus i hi
  have hseg : c.take j ++ [u] ++ c.drop (j + 1) = c.set j u := by
    rw [List.set_eq_take_append_cons_drop, if_pos (by omega)]
    simp
  have h := Kd.R_seg hp (k : Int) (by omega) (by omega) (c := c) (seg := [u]) (j := j) hcl hcc (show j + [u].length ≤ d.sz from hj) (okp := fun _ => False) (x' := x') (by
    show d.M w 0 _ x' (c.take j ++ [u] ++ c.drop (j + [u].length))
    rw [show j + [u].length = j + 1 from rfl, hseg]
    exact hM) (fun _ h => h.elim)
  simp only [Int.toNat_natCast] at h
  rw [setCells_one] at h
  exact hF _ _ f h.1 (fun k h => .inl h) (Chg.of_grown h.2 (fun k e => by injection e with e; subst e; exact hp.1 _ (by simp [Value.ownBlock])))
/-- The same where an element is one cell. -/
theorem Hold.setCell1 {α : Type} {enc : α → Value} {h1 : ∀ x, (enc x).oneCell' = true} {e g n cap : Nat} {xs : List α} (hS : Hold w0 B w L) (i : Nat) (hi : L[i]? = some (.row (Kd.scalar enc h1) e (.slice (some ⟨g, 0, none⟩) n cap) xs)) (k : Nat) (hk : k < n) (x' : α) :
    Hold w0 B (w.setCell ⟨g, k, none⟩ (enc x')) (L.set i (.row (Kd.scalar enc h1) e (.slice (some ⟨g, 0, none⟩) n cap) (xs.set k x'))) := by
  obtain ⟨A, c, he, _, hC⟩ := hS.reads i hi
  injection he with hA hn hc
  subst hA
  subst hn
  obtain ⟨ad, hA, hcell⟩ := C1_get hC k hk
  injection hA with hA
  subst hA
  rw [add_plain] at hcell
  have h := hS.setCell i hi k 0 hk (enc x') x' (show 0 < 1 from Nat.one_pos) [enc xs[k]] rfl (by
    intro j u hu
    cases j with
    | zero =>
      have : enc xs[k] = u := by simpa using hu
      subst this
      show w.cell? ⟨g, k * 1 + 0, none⟩ = _
      rw [Nat.mul_one, Nat.add_zero]
      exact hcell
    | succ j => simp at hu) rfl
  have e1 : k * (Kd.scalar enc h1).sz + 0 = k := by show k * 1 + 0 = k; omega
  rw [e1] at h
  exact h
/-- An element of a row of one's own, for the walk. -/
theorem Hold.at1 {α : Type} {enc : α → Value} {h1 : ∀ x, (enc x).oneCell' = true} {e g n cap : Nat} {xs : List α} (hS : Hold w0 B w L) (i : Nat) (hi : L[i]? = some (.row (Kd.scalar enc h1) e (.slice (some ⟨g, 0, none⟩) n cap) xs)) (k : Nat) (hk : k < xs.length) : w.cell? ⟨g, k, none⟩ = some (enc xs[k]) := by
  obtain ⟨A, c, he, _, hC⟩ := hS.reads i hi
  injection he with hA hn hc
  subst hA
  subst hn
  obtain ⟨ad, hA, hcell⟩ := C1_get hC k hk
  injection hA with hA
  subst hA
  rwa [add_plain] at hcell
theorem Hold.at2 {α β : Type} {e1 : α → Value} {e2 : β → Value} {h1 : ∀ x, (e1 x).oneCell' = true} {h2 : ∀ x, (e2 x).oneCell' = true} {e g n cap : Nat} {xs : List (α × β)} (hS : Hold w0 B w L) (i : Nat) (hi : L[i]? = some (.row (Kd.pair (Kd.scalar e1 h1) (Kd.scalar e2 h2)) e (.slice (some ⟨g, 0, none⟩) n cap) xs)) (k : Nat) (hk : k < xs.length) :
    w.cell? ⟨g, k * 2, none⟩ = some (e1 xs[k].1) ∧ w.cell? ⟨g, k * 2 + 1, none⟩ = some (e2 xs[k].2) := by
  obtain ⟨A, c, he, _, hC⟩ := hS.reads i hi
  injection he with hA hn hc
  subst hA
  subst hn
  obtain ⟨ad, hA, hc1, hc2⟩ := C2_get hC k hk
  injection hA with hA
  subst hA
  rw [add_plain] at hc1 hc2
  exact ⟨hc1, hc2⟩

theorem splice_take {β : Type} (l Y : List β) (off k n : Nat) (hY : Y.length = k) (h : off + k ≤ n) (hn : n ≤ l.length) : (l.take off ++ Y ++ l.drop (off + k)).take n = (l.take n).take off ++ Y ++ (l.take n).drop (off + k) := by
  have hA : (l.take off ++ Y).length = off + k := by rw [List.length_append, List.length_take, hY]; omega
  rw [List.take_append, hA, List.take_of_length_le (by omega), List.take_take, Nat.min_eq_left (by omega), List.drop_take]
/-- A row as the block that it lies in. -/
theorem Hold.rowOpen {α : Type} {enc : α → Value} {h1 : ∀ x, (enc x).oneCell' = true} {e g n cap : Nat} {xs : List α} (hS : Hold w0 B w L) (i : Nat) (hi : L[i]? = some (.row (Kd.scalar enc h1) e (.slice (some ⟨g, 0, none⟩) n cap) xs)) :
    ∃ cs : Array Value, cs.size = cap ∧ n ≤ cap ∧ cap ≤ maxLen ∧ cs.toList.take n = xs.map enc ∧ xs.length = n ∧ Hold w0 B w (L.set i (.blk g (.cells cs e (0, 0)))) := by
  obtain ⟨A, c, he, _, _⟩ := hS.reads i hi
  injection he with _ hn hc
  subst hn
  rcases Nat.eq_zero_or_pos xs.length with hz | hp
  · obtain ⟨f, hp, hb, hk⟩ := hS.focus i hi
    obtain ⟨h0, inner, ho, hr⟩ := hp
    rcases ho.2 with ⟨hv, _⟩ | ⟨g', cap', cur, hv, _, hh, hnc, hcm, hcs, htake⟩
    · cases hv
    · injection hv with ha _ hc
      injection ha with ha
      injection ha with hg
      subst hg; subst hc
      have hxs : xs = [] := List.eq_nil_of_length_eq_zero hz
      subst hxs
      exact ⟨cur, by simpa [Kd.scalar] using hcs, hnc, hcm, by simp, rfl, hk w _ f ⟨h0 g (by simp [Value.ownBlock]), hh⟩ (fun k h => .inl h) ⟨rfl, rfl, rfl, Nat.le_refl _, fun _ _ _ => rfl⟩⟩
  · obtain ⟨g', c', cs, hv, h2, h3, h4, h5, h6⟩ := hS.toBlk i hi (by rintro rfl; simp at hp)
    injection hv with ha _ hc
    injection ha with ha
    injection ha with hg
    subst hg; subst hc
    exact ⟨cs, h4, h2, h3, h5, rfl, h6⟩
theorem Hold.blkRow {α : Type} {enc : α → Value} {h1 : ∀ x, (enc x).oneCell' = true} {e g n cap : Nat} {cs : Array Value} {xs : List α} (hS : Hold w0 B w L) (i : Nat) (hi : L[i]? = some (.blk g (.cells cs e (0, 0)))) (hsz : cs.size = cap) (hnc : n ≤ cap) (hc : cap ≤ maxLen) (ht : cs.toList.take n = xs.map enc) (hn : n = xs.length) :
    Hold w0 B w (L.set i (.row (Kd.scalar enc h1) e (.slice (some ⟨g, 0, none⟩) n cap) xs)) :=
  hS.toRow i hi (by
    have e1 : n * (Kd.scalar enc h1).sz = n := Nat.mul_one n
    rw [e1, ht]
    exact reps_scalar _ _ _ _) hn hnc hc (by rw [hsz]; exact (Nat.mul_one cap).symm)
theorem list_set_set {L : List Asrt} {i : Nat} {a b : Asrt} : (L.set i a).set i b = L.set i b := List.set_set ..
theorem list_set_at {L : List Asrt} {i : Nat} {a b : Asrt} (hi : L[i]? = some b) : (L.set i a)[i]? = some a := by
  rw [List.getElem?_set, if_pos rfl, if_pos (List.getElem?_eq_some_iff.1 hi).1]
/-- A block's cells, all anew. -/
theorem Hold.setRow {g t : Nat} {cs cs' : Array Value} (hS : Hold w0 B w L) (i : Nat) (hi : L[i]? = some (.blk g (.cells cs t (0, 0)))) : Hold w0 B (w.setRow g cs') (L.set i (.blk g (.cells cs' t (0, 0)))) :=
  hS.upd i hi (fun f hp => ⟨f, ⟨hp.1, setRow_heap w g cs _ t _ hp.2⟩, fun k hk => .inl hk, ⟨rfl, rfl, rfl, by simp [World.setRow], fun k _ hn => setRow_other w g k _ (fun e => hn (by rw [e]; exact hp.1))⟩⟩)
end

section
variable {P : Program} {ops : Array Oper} {rest : List Oper} {o : Oper} {a : Act} {Q : Exit → Act → World → Prop} {α : Type} {w0 W : World} {B : Nat} {L : List Asrt}
/-- Is it this operation that stands next? -/
theorem at_bi {b : Builtin} {xs : Array Operand} {ts : Array TypeId} (_ho : o.op = .call { callee := .builtin b, args := xs, argTypes := ts }) (h : wpList P ops Q (o :: rest) a W) : wpList P ops Q (o :: rest) a W := h
theorem at_dst {N : Tmp} (_hN : o.dst = some N) (h : wpList P ops Q (o :: rest) a W) : wpList P ops Q (o :: rest) a W := h
/-- append(v, x), x of one kind that leads to no row. -/
theorem Hold.append1 (d : Kd α) (i : Nat) (hS : Hold w0 B W L) {e : Nat} {v : Value} {xs : List α} (hi : L[i]? = some (.row d e v xs)) (hgd : o.guard = none) (s x : Operand) (t : TypeId) (z : Value) (bytes : Nat)
    (ho : o.op = .call { callee := .builtin .append, args := #[s, x], argTypes := #[t, t] })
    (ht : P.underlying t = some (.slice e)) (hinfo : (P.info? e).map (fun i => (i.zero, i.size, i.bytes)) = some (some z, d.sz, bytes)) (hz : z.cells.size = d.sz) (hs0 : 0 < d.sz) (hb0 : 0 < bytes)
    (p : α) (cs : List Value) (hs : a.eval s = v) (hx : a.eval x = .slice (some ⟨W.heap.size, 0, none⟩) 1 1) (hp : d.M W 0 (fun _ => False) p cs) (hl : (xs.length + 1) * bytes ≤ 140737488355328)
    (h : ∀ v1 w1, Hold w0 B w1 (L.set i (.row d e v1 (xs ++ [p]))) → wpList P ops Q rest (a.put o.dst v1) w1) : wpList P ops Q (o :: rest) a (W.alloc (.cells cs.toArray e)) := by
  obtain ⟨f, hR, hb, hk⟩ := hS.focus i hi
  refine Kd.R_append d (w0 := W) 0 hgd s x t e z bytes ho ht hinfo hz hs0 hb0 v xs p cs (fun k => f k ∨ W.heap.size ≤ k) (fun _ => False) hs hx hp (fun _ h => h.elim) (fun k h => .inr h) (Kd.R_mono hR (fun k h => .inl h)) (Below.refl _ _) (Nat.zero_le _) hl ?_
  intro v1 w1 ho1 hb1 hg hat
  exact h v1 w1 (hk w1 _ _ ho1 (fun k h => h) (Chg.of_grown hg (fun k e => hR.1 k e)))
/-- append(v, ys...), of a kind that leads to no row. -/
theorem Hold.appendRow {enc : α → Value} {h1 : ∀ x, (enc x).oneCell' = true} (i : Nat) (hS : Hold w0 B W L) {e : Nat} {v : Value} {xs ys : List α} (hi : L[i]? = some (.row (Kd.scalar enc h1) e v xs)) (hgd : o.guard = none) (s x : Operand) (t : TypeId) (z : Value) (bytes : Nat)
    (ho : o.op = .call { callee := .builtin .append, args := #[s, x], argTypes := #[t, t] })
    (ht : P.underlying t = some (.slice e)) (hinfo : (P.info? e).map (fun i => (i.zero, i.size, i.bytes)) = some (some z, 1, bytes)) (hz : z.cells.size = 1) (hb0 : 0 < bytes)
    (A : Option Addr) (m c : Nat) (hs : a.eval s = v) (hx : a.eval x = .slice A m c) (hC : (Kd.scalar enc h1).C W A m ys) (hl : (xs.length + m) * bytes ≤ 140737488355328)
    (h : ∀ v1 w1, Hold w0 B w1 (L.set i (.row (Kd.scalar enc h1) e v1 (xs ++ ys))) → wpList P ops Q rest (a.put o.dst v1) w1) : wpList P ops Q (o :: rest) a W := by
  obtain ⟨f, hR, hb, hk⟩ := hS.focus i hi
  refine Kd.R_append_rows (Kd.scalar enc h1) (w0 := W) 0 hgd s x t e z bytes ho ht hinfo hz (show 0 < 1 from Nat.one_pos) hb0 v xs ys A m c (fun k => f k ∨ W.heap.size ≤ k) (fun _ => False) hs hx (Kd.R_mono hR (fun k h => .inl h)) hC (fun _ _ h => h) (fun _ h => h.elim) (fun k h => .inr h) (Below.refl _ _) (Nat.zero_le _) hl ?_
  intro v1 w1 ho1 hb1 hg hat
  exact h v1 w1 (hk w1 _ _ ho1 (fun k h => h) (Chg.of_grown hg (fun k e => hR.1 k e)))
/-- The same for elements of several cells. -/
theorem Hold.appendRowG (d : Kd α) (i : Nat) (hS : Hold w0 B W L) {e : Nat} {v : Value} {xs ys : List α} (hi : L[i]? = some (.row d e v xs)) (hgd : o.guard = none) (s x : Operand) (t : TypeId) (z : Value) (bytes : Nat)
    (ho : o.op = .call { callee := .builtin .append, args := #[s, x], argTypes := #[t, t] })
    (ht : P.underlying t = some (.slice e)) (hinfo : (P.info? e).map (fun i => (i.zero, i.size, i.bytes)) = some (some z, d.sz, bytes)) (hz : z.cells.size = d.sz) (hs0 : 0 < d.sz) (hb0 : 0 < bytes)
    (A : Option Addr) (m c : Nat) (hs : a.eval s = v) (hx : a.eval x = .slice A m c) (hC : d.C W A m ys) (hKM : ∀ x cs, d.K W x cs → d.M W 0 (fun _ => False) x cs) (hl : (xs.length + m) * bytes ≤ 140737488355328)
    (h : ∀ v1 w1, Hold w0 B w1 (L.set i (.row d e v1 (xs ++ ys))) → wpList P ops Q rest (a.put o.dst v1) w1) : wpList P ops Q (o :: rest) a W := by
  obtain ⟨f, hR, hb, hk⟩ := hS.focus i hi
  refine Kd.R_append_rows d (w0 := W) 0 hgd s x t e z bytes ho ht hinfo hz hs0 hb0 v xs ys A m c (fun k => f k ∨ W.heap.size ≤ k) (fun _ => False) hs hx (Kd.R_mono hR (fun k h => .inl h)) hC hKM (fun _ h => h.elim) (fun k h => .inr h) (Below.refl _ _) (Nat.zero_le _) hl ?_
  intro v1 w1 ho1 hb1 hg hat
  exact h v1 w1 (hk w1 _ _ ho1 (fun k h => h) (Chg.of_grown hg (fun k e => hR.1 k e)))
/-- copy(dst, src): dst a part of a row of one's own, or empty. -/
theorem Hold.copy {enc : α → Value} {h1 : ∀ x, (enc x).oneCell' = true} (i : Nat) (hS : Hold w0 B W L) {e : Nat} {v : Value} {xs ys : List α} (hi : L[i]? = some (.row (Kd.scalar enc h1) e v xs)) (hgd : o.guard = none) (d s : Operand) (dT sT : TypeId)
    (ho : o.op = .call { callee := .builtin .copy, args := #[d, s], argTypes := #[dT, sT] }) (hu : P.underlying dT = some (.slice e)) (hsz : (P.info? e).map (·.size) = some 1)
    (off : Nat) (D A : Option Addr) (dLen dCap m c : Nat) (hd : a.eval d = .slice D dLen dCap) (hs : a.eval s = .slice A m c) (hC : (Kd.scalar enc h1).C W A m ys)
    (hD : 0 < dLen → ∃ g n cap, v = .slice (some ⟨g, 0, none⟩) n cap ∧ D = some ⟨g, off, none⟩) (hfit : off + dLen ≤ xs.length) (k : Nat) (hk : k = min m dLen)
    (h : ∀ w1, Hold w0 B w1 (L.set i (.row (Kd.scalar enc h1) e v (xs.take off ++ ys.take k ++ xs.drop (off + k)))) → wpList P ops Q rest (a.put o.dst (goInt k)) w1) : wpList P ops Q (o :: rest) a W := by
  have hml := hC.1
  refine wpList_plain hgd fun K hK => ?_
  unfold Oper.wp execOp
  simp only [ho, resolve, invoke, builtin, Sem.run_bind, Sem.run_pure, Result.andThen_ok, List.map_toArray, List.map_cons, List.map_nil, hd, hs]
  by_cases h0 : k = 0
  · subst h0
    rw [run_copy_none W dT sT o.type e D A dLen dCap m c hu hsz (by show min m dLen = 0; omega)]
    have hh := h W (by
      have e2 : xs.take off ++ ys.take 0 ++ xs.drop (off + 0) = xs := by simp
      rw [e2]
      have e3 : L.set i (.row (Kd.scalar enc h1) e v xs) = L := by
        apply List.ext_getElem?
        intro j
        rw [List.getElem?_set]
        split
        · rename_i ej; subst ej; rw [hi]; simp [(List.getElem?_eq_some_iff.1 hi).1]
        · rfl
      rw [e3]; exact hS)
    exact hK _ _ hh
  · obtain ⟨g, n, cap, rfl, rfl⟩ := hD (by omega)
    obtain ⟨cs, hsz', hnc, hcm, ht, hn, hB⟩ := hS.rowOpen i hi
    have hm0 : 0 < m := by omega
    obtain ⟨ad, rfl, hcell⟩ := hC.2.2 hm0
    have hg := hB.blk i (list_set_at hi)
    have hlen : (ys.take k |>.map enc).length = Nat.min m dLen := by simp [List.length_take]; show min k ys.length = min m dLen; omega
    rw [run_copy_row P W dT sT o.type e g off dLen dCap ad m c cs e ((ys.take k).map enc) hu hsz hg hlen (by
      intro j u hu
      rw [List.getElem?_map, List.getElem?_take] at hu
      split at hu
      · cases hy : ys[j]? with
        | none => rw [hy] at hu; simp at hu
        | some y =>
          rw [hy] at hu
          obtain rfl : enc y = u := by simpa using hu
          obtain ⟨c1, _, hc1, hc2⟩ := hcell j y hy
          have hc1' : c1 = [enc y] := hc1
          subst hc1'
          have := hc2 0 _ rfl
          simpa [Kd.scalar] using this
      · simp at hu) (by rw [hlen, hsz']; show off + min m dLen ≤ cap; omega) (by intro u hu; obtain ⟨y, _, rfl⟩ := List.mem_map.1 hu; exact h1 y)]
    have hkl : ((ys.take k).map enc).length = k := by rw [hlen]; exact hk.symm
    rw [hkl]
    have hR := hB.setRow (cs' := (cs.toList.take off ++ (ys.take k).map enc ++ cs.toList.drop (off + k)).toArray) i (list_set_at hi)
    rw [list_set_set] at hR
    have hR2 := hR.blkRow (enc := enc) (h1 := h1) (n := n) (cap := cap) (xs := xs.take off ++ ys.take k ++ xs.drop (off + k)) i (list_set_at hi) (by simp; omega) hnc hcm (by
      have e4 : xs.map enc = cs.toList.take n := ht.symm
      simp only [List.map_append, List.map_take, List.map_drop, e4]
      exact splice_take cs.toList _ off k n (by rw [← List.map_take]; exact hkl) (by omega) (by simp; omega)) (by simp; omega)
    rw [list_set_set] at hR2
    exact hK _ _ (h _ hR2)
/-- make([]T, n), of a kind that leads to no row. -/
theorem Hold.make {enc : α → Value} {h1 : ∀ x, (enc x).oneCell' = true} (hS : Hold w0 B W L) (e : Nat) (hgd : o.guard = none) {N : Tmp} (hd : o.dst = some N) (t : TypeId) (x y : Operand) (ho : o.op = .makeSlice t x y) (n : Int) (hx : a.eval x = .int .i64 n) (hy : a.eval y = .int .i64 n)
    (ht : P.underlying t = some (.slice e)) (z0 : α) (bytes : Nat) (hinfo : (P.info? e).map (fun i => (i.zero, i.size, i.bytes)) = some (some (enc z0), 1, bytes)) (hz : (enc z0).cells = #[enc z0]) (hb0 : 0 < bytes)
    (h0 : 0 ≤ n) (hl : n.toNat * bytes ≤ 281474976710656)
    (h : ∀ v1 w1, Hold w0 B w1 (.row (Kd.scalar enc h1) e v1 (List.replicate n.toNat z0) :: L) → wpList P ops Q rest (a.put o.dst v1) w1) : wpList P ops Q (o :: rest) a W := by
  refine Kd.R_make (Kd.scalar enc h1) (w0 := W) W.heap.size e hgd hd t x y ho n hx hy ht (enc z0) bytes hinfo (by rw [hz]; rfl) (show 0 < 1 from Nat.one_pos) hb0 z0 (ok := fun _ => True) (okp := fun _ => False) (by show (enc z0).cells.toList = [enc z0]; rw [hz]) (fun _ h => h.elim) trivial h0 hl (Below.refl _ _) (Nat.le_refl _) ?_
  intro v1 w1 hR hb hg hat
  exact h v1 w1 (hS.new hR hb)
/-- A literal of a kind that leads to no row. -/
theorem Hold.lit (d : Kd α) (hS : Hold w0 B W L) (e : Nat) (hgd : o.guard = none) {N : Tmp} (hd : o.dst = some N) {xs : List α} {inner : List Value}
    (hrun : (execOp a.eval o).run P W = .ok (.value (.slice (some ⟨W.heap.size, 0, none⟩) xs.length xs.length)) (W.alloc (.cells inner.toArray e)))
    (hrep : Reps (d.M W W.heap.size (fun _ => False)) d.sz xs inner) (hm : xs.length ≤ 9223372036854775807)
    (h : ∀ v1 w1, Hold w0 B w1 (.row d e v1 xs :: L) → wpList P ops Q rest (a.put o.dst v1) w1) : wpList P ops Q (o :: rest) a W := by
  refine Kd.R_lit d (w0 := W) W.heap.size e hgd hd (ok := fun _ => True) (okp := fun _ => False) hrun hrep (fun _ h => h.elim) trivial (Below.refl _ _) (Nat.le_refl _) hm ?_
  intro v1 w1 hR hb hg hat
  exact h v1 w1 (hS.new hR hb)
end
end Go.Proofs.YtgldcjmdjhghpaaGreatDoor
namespace Go.Proofs.YtgldcjmdjhghpaaGreatDoor
open Go.RowKit Go.Proofs.YtgldcjmdjhghpaaGreatDoorW.PrintWords Go.ChangeShapes Go.WideShapes Go.Deep
set_option linter.unusedVariables false
set_option linter.unusedSimpArgs false

/-- Whatever is read at type t is a value of this kind. -/
structure Opens (P : Program) (t : TypeId) {α : Type} (d : Kd α) (ok : α → Prop) : Prop where
  out : ∀ {H : Type} (enc : TypeId × Value → H) (w : World) (base : Nat) (spare : Nat → Bool) (held : Bool) (fuel : Nat) (cs : List Value) (x : DataW H × List MemPlace), DataW.trod enc P w base spare held fuel t cs = some x → ∃ a, d.K w a cs ∧ ok a
def WfI (k : IntKind) (n : Int) : Prop := (Lit.int k n).wf = true
def Both {α β : Type} (p : α → Prop) (q : β → Prop) (x : α × β) : Prop := p x.1 ∧ q x.2
def AnyOk {α : Type} (_ : α) : Prop := True
def AllOk {α : Type} (p : α → Prop) (xs : List α) : Prop := ∀ x ∈ xs, p x
def StrOk (s : ByteArray) : Prop := s.size ≤ maxLen
section
variable {P : Program} {t : TypeId}
theorem Opens.int {k : IntKind} (ht : P.underlying t = some (.int k)) : Opens P t (Kd.int k) (WfI k) := by
  constructor
  intro H enc w base spare held fuel cs x h
  obtain ⟨n, rfl, _, hw⟩ := DataW.trod_int ht h
  exact ⟨n, rfl, hw⟩
theorem Opens.bool (ht : P.underlying t = some .bool) : Opens P t Kd.bool AnyOk := by
  constructor
  intro H enc w base spare held fuel cs x h
  obtain ⟨b, rfl, _⟩ := DataW.trod_bool ht h
  exact ⟨b, rfl, trivial⟩
theorem Opens.string (ht : P.underlying t = some .string) : Opens P t Kd.string StrOk := by
  constructor
  intro H enc w base spare held fuel cs x h
  obtain ⟨s, rfl, _, hs⟩ := DataW.trod_string ht h
  exact ⟨s, rfl, hs⟩
theorem list_of {α : Type} {Q : Nat → α → Prop} : ∀ n : Nat, (∀ i, i < n → ∃ a, Q i a) → ∃ xs : List α, xs.length = n ∧ ∀ i a, xs[i]? = some a → Q i a
  | 0, _ => ⟨[], rfl, fun i a h => by simp at h⟩
  | n + 1, h => by
    obtain ⟨xs, hl, hx⟩ := list_of n (fun i hi => h i (by omega))
    obtain ⟨a, ha⟩ := h n (by omega)
    refine ⟨xs ++ [a], by simp [hl], fun i b hb => ?_⟩
    rcases Nat.lt_or_ge i n with hi | hi
    · rw [List.getElem?_append_left (by omega)] at hb
      exact hx i b hb
    · rw [List.getElem?_append_right (by omega)] at hb
      have : i = n := by
        have := (List.getElem?_eq_some_iff.1 hb).1
        simp at this
        omega
      subst this
      rw [hl, Nat.sub_self] at hb
      have : a = b := by simpa using hb
      exact this ▸ ha
theorem Opens.sl {e : TypeId} {α : Type} {d : Kd α} {ok : α → Prop} (ht : P.underlying t = some (.slice e)) (hc : P.cellsOf e = d.sz) (h : Opens P e d ok) : Opens P t (Kd.slice e d) (AllOk ok) := by
  constructor
  intro H enc w base spare held fuel cs x ht'
  rcases open_slice ht ht' with ⟨rfl, _⟩ | ⟨a, len, cap, m, n, D, Pl, rfl, hb, hl, hm, hmm, _, hi⟩
  · exact ⟨[], ⟨none, 0, rfl, Nat.le_refl _, ⟨rfl, Nat.zero_le _, fun hn => absurd hn (Nat.lt_irrefl _)⟩⟩, fun x hx => by simp at hx⟩
  · obtain ⟨xs, hxl, hx⟩ := list_of (Q := fun i a' => ok a' ∧ ∃ c, c.length = d.sz ∧ d.K w a' c ∧ ∀ j u, c[j]? = some u → w.cell? (a.add (i * d.sz + j)) = some u) len (fun i hil => by
      obtain ⟨cs', hcs, htr⟩ := hi i (by rw [hmm]; split <;> omega)
      obtain ⟨a', hK, hok⟩ := h.out enc w base spare held n cs' _ htr
      rw [hc] at hcs
      obtain ⟨_, hlen, hcell⟩ := World.cells?_some hcs
      refine ⟨a', hok, cs', hlen, hK, fun j u hu => ?_⟩
      have hj : j < cs'.length := (List.getElem?_eq_some_iff.1 hu).1
      have := hcell j (by omega)
      rw [Go.Deep.add_add] at this
      rw [this, hu])
    refine ⟨xs, ⟨some a, cap, by rw [hxl], by omega, ⟨rfl, by rw [hxl]; simp only [maxLen] at hm; omega, fun hn => ⟨a, rfl, fun j p hj => ?_⟩⟩⟩, fun y hy => ?_⟩
    · obtain ⟨_, c, h1, h2, h3⟩ := hx j p hj
      exact ⟨c, h1, h2, h3⟩
    · obtain ⟨j, hj⟩ := List.getElem?_of_mem hy
      exact (hx j y hj).1
/-- A struct's cells from field i on. -/
structure OpensAt (P : Program) (fs : Array Field) (i off : Nat) {α : Type} (d : Kd α) (ok : α → Prop) : Prop where
  out : ∀ {H : Type} (enc : TypeId × Value → H) (w : World) (base : Nat) (spare : Nat → Bool) (held : Bool) (n : Nat) (cs : List Value) (xs : List (DataW H × List MemPlace)), xs.length = fs.size →
    (∀ (j : Nat) (f : Field), fs[j]? = some f → DataW.trod enc P w base spare held n f.type ((cs.drop f.offset).take (P.cellsOf f.type)) = xs[j]?) → ∃ a, d.K w a ((cs.drop off).take d.sz) ∧ ok a
theorem OpensAt.last {fs : Array Field} {i off : Nat} {f : Field} {α : Type} {d : Kd α} {ok : α → Prop} (hf : fs[i]? = some f) (ho : f.offset = off) (hc : P.cellsOf f.type = d.sz) (h : Opens P f.type d ok) : OpensAt P fs i off d ok := by
  constructor
  intro H enc w base spare held n cs xs hl hx
  have h1 := hx i f hf
  have hi : i < xs.length := by rw [hl]; exact (Array.getElem?_eq_some_iff.1 hf).1
  rw [ho, hc, List.getElem?_eq_getElem hi] at h1
  exact h.out enc w base spare held n _ _ h1
theorem OpensAt.cons {fs : Array Field} {i off : Nat} {f : Field} {α β : Type} {d : Kd α} {d' : Kd β} {ok : α → Prop} {ok' : β → Prop} (hf : fs[i]? = some f) (ho : f.offset = off) (hc : P.cellsOf f.type = d.sz) (h : Opens P f.type d ok) (hr : OpensAt P fs (i + 1) (off + d.sz) d' ok') :
    OpensAt P fs i off (Kd.pair d d') (Both ok ok') := by
  constructor
  intro H enc w base spare held n cs xs hl hx
  obtain ⟨a, ha, hok⟩ := (OpensAt.last hf ho hc h).out enc w base spare held n cs xs hl hx
  obtain ⟨b, hb, hok'⟩ := hr.out enc w base spare held n cs xs hl hx
  refine ⟨(a, b), ⟨_, _, ?_, ha, hb⟩, hok, hok'⟩
  show (cs.drop off).take (d.sz + d'.sz) = _
  rw [List.take_add, List.drop_drop]
theorem Opens.struct {fs : Array Field} {α : Type} {d : Kd α} {ok : α → Prop} (ht : P.underlying t = some (.struct fs)) (hC : P.cellsOf t = d.sz) (h : OpensAt P fs 0 0 d ok) : Opens P t d ok := by
  constructor
  intro H enc w base spare held fuel cs x hx
  obtain ⟨xs, n, _, _, hl, hxl, hf⟩ := DataW.trod_struct ht hx
  obtain ⟨a, ha, hok⟩ := h.out enc w base spare held n cs xs hxl hf
  rw [List.drop_zero, ← hC, ← hl, List.take_length] at ha
  exact ⟨a, ha, hok⟩
end
/-- A parameter that is a slice: its value, what it reads, its size. -/
theorem open_sl {H : Type} {enc : TypeId × Value → H} {P : Program} {W : World} {base : Nat} {spare : Nat → Bool} {held : Bool} {t e : TypeId} {v : Value} {dd : DataW H} {ps : List MemPlace} {ts : List TypeId} {ds : List (DataW H)} {j : Nat} {r : Reach} {b0 : Nat}
    {α : Type} {d : Kd α} {ok : α → Prop} (hu : P.underlying t = some (.slice e)) (hc : P.cellsOf e = d.sz) {B : Nat} (hB : P.bytesOf e = B) (hO : Opens P e d ok) (hv : Value.okWide P W r b0 t v)
    (hsz : (DataW.weightsEach P ts ds).all (· ≤ reachBytes) = true) (ht : ts[j]? = some t) (hd : ds[j]? = some dd)
    (h : DataW.Trod enc P W base spare held t v dd ps) : ∃ (A : Option Addr) (n c : Nat) (xs : List α), v = .slice A n c ∧ d.C W A n xs ∧ AllOk ok xs ∧ (xs.length * B ≤ 140737488351232 ∧ n ≤ c) := by
  obtain ⟨A, n, c, rfl⟩ := okWide_slice hu hv
  obtain ⟨fuel, hf⟩ := h
  obtain ⟨xs, ⟨A', c', he, hle, hC⟩, hok⟩ := (Opens.sl hu hc hO).out enc W base spare held fuel _ _ hf
  simp only [Value.cells] at he
  simp at he
  obtain ⟨rfl, rfl, rfl⟩ := he
  refine ⟨A, _, c, xs, rfl, hC, hok, ?_, hle⟩
  rcases open_slice hu hf with ⟨hcs, _⟩ | ⟨x, l, c1, m, n, D, Pl, hcs, _, hl, hm, hmm, hx, _⟩
  · simp [Value.cells] at hcs
    obtain ⟨_, rfl, _⟩ := hcs
    simp
  · simp [Value.cells] at hcs
    obtain ⟨_, rfl, _⟩ := hcs
    obtain ⟨hx, _⟩ := Prod.mk.inj hx
    subst hx
    have z := sized_slice hsz ht hd hu
    rw [hB] at z
    simp only [List.length_map, List.length_range] at z
    exact Nat.le_trans (Nat.mul_le_mul_right _ (Nat.le_add_right _ _)) z
end Go.Proofs.YtgldcjmdjhghpaaGreatDoor
namespace Go.Proofs.YtgldcjmdjhghpaaGreatDoor
open Go.RowKit Go.Proofs.YtgldcjmdjhghpaaGreatDoorW.PrintWords Go.ChangeShapes Go.WideShapes
set_option linter.unusedVariables false
set_option linter.unusedSimpArgs false

/-- A byte's cell. -/
def bV (b : UInt8) : Value := .int .u8 (b.toNat : Int)
abbrev kB : Kd UInt8 := Kd.scalar bV (fun _ => rfl)
/-- A text of bytes. -/
def bStr (xs : List UInt8) : ByteArray := ⟨xs.toArray⟩
theorem bStr_size (xs : List UInt8) : (bStr xs).size = xs.length := rfl
theorem bStr_inj {xs ys : List UInt8} : bStr xs = bStr ys ↔ xs = ys := by
  constructor
  · intro h
    have := congrArg (fun s : ByteArray => s.data.toList) h
    simpa [bStr] using this
  · rintro rfl; rfl
theorem kB_ints {w : World} {A : Option Addr} {n : Nat} {xs : List UInt8} (h : kB.C w A n xs) : (Kd.int .u8).C w A n (xs.map fun b => (b.toNat : Int)) := by
  refine ⟨by rw [List.length_map]; exact h.1, h.2.1, fun hn => ?_⟩
  obtain ⟨ad, e, hc⟩ := h.2.2 hn
  refine ⟨ad, e, fun j p hj => ?_⟩
  rw [List.getElem?_map] at hj
  cases hx : xs[j]? with
  | none => rw [hx] at hj; simp at hj
  | some b =>
    rw [hx] at hj
    obtain rfl : (b.toNat : Int) = p := by simpa using hj
    exact hc j b hx
theorem strOfNums_bytes (xs : List UInt8) : strOfNums (xs.map fun b => (b.toNat : Int)) = bStr xs := by
  unfold strOfNums bStr
  congr 1
  congr 1
  rw [List.map_map]
  conv => rhs; rw [← List.map_id xs]
  apply List.map_congr_left
  intro b _
  simp
/-- 'string(b)', laid ahead of a walk. -/
theorem kB_string {P : Program} {w : World} {src dst e : TypeId} {A : Option Addr} {n : Nat} (c : Nat) {xs : List UInt8} (hs : P.underlying src = some (.slice e)) (he : P.underlying e = some (.int .u8)) (hd : P.underlying dst = some .string) (h : kB.C w A n xs) :
    (convert src dst (.slice A n c)).run P w = .ok (.string (bStr xs)) w := by
  have := Kd.C_string (P := P) (c := c) hs he hd (kB_ints h)
  rwa [strOfNums_bytes] at this
theorem bStr_beq (xs ys : List UInt8) : ((bStr xs).toList == (bStr ys).toList) = decide (xs = ys) := by
  have h1 : ∀ l : List UInt8, (bStr l).toList = l := fun l => ByteArray.toList_mk l
  rw [h1, h1]
  by_cases h : xs = ys
  · rw [decide_eq_true h, beq_iff_eq]; exact h
  · rw [decide_eq_false h, beq_eq_false_iff_ne]; exact h
theorem Opens.byte {P : Program} {t : TypeId} (ht : P.underlying t = some (.int .u8)) : Opens P t kB AnyOk := by
  constructor
  intro H enc w base spare held fuel cs x h
  obtain ⟨n, rfl, _, hw⟩ := DataW.trod_int ht h
  have hr : 0 ≤ n ∧ n < 256 := by
    simp [Lit.wf, IntKind.min, IntKind.max, IntKind.bits, IntKind.signed] at hw
    omega
  refine ⟨UInt8.ofNat n.toNat, ?_, trivial⟩
  show _ = [bV _]
  unfold bV
  rw [UInt8.toNat_ofNat']
  congr 2
  have : n.toNat % 256 = n.toNat := Nat.mod_eq_of_lt (by omega)
  omega
theorem infoB_len {n : Nat} : n * 1 = n := Nat.mul_one n
end Go.Proofs.YtgldcjmdjhghpaaGreatDoor
namespace Go.Proofs.YtgldcjmdjhghpaaGreatDoor
theorem ne_of_at {α : Type} {xs ys : List α} (k : Nat) (h1 : k < xs.length) (h2 : k < ys.length) (h : xs[k] ≠ ys[k]) : xs ≠ ys := fun e => by subst e; exact h rfl
theorem take_ne {α : Type} {xs ys : List α} (hl : xs.length = ys.length) (h : xs.take xs.length = ys.take xs.length) : xs = ys := by
  rw [List.take_length] at h
  rw [h, hl, List.take_length]
theorem take_more {α : Type} {xs ys : List α} {k : Nat} (h1 : k < xs.length) (h2 : k < ys.length) (h : xs.take k = ys.take k) (e : xs[k] = ys[k]) : xs.take (k + 1) = ys.take (k + 1) := by
  rw [List.take_succ_eq_append_getElem h1, List.take_succ_eq_append_getElem h2, h, e]

end Go.Proofs.YtgldcjmdjhghpaaGreatDoor
namespace Go.Proofs.YtgldcjmdjhghpaaGreatDoor
open Go.RowKit Go.Proofs.YtgldcjmdjhghpaaGreatDoorW.PrintWords
set_option linter.unusedVariables false
set_option linter.unusedSimpArgs false
/-- Are two texts one? As the walk has it. -/
def sEq (a b : ByteArray) : Bool := a.toList == b.toList
theorem sEq_true {a b : ByteArray} : sEq a b = true ↔ a = b := by
  unfold sEq
  rw [ByteArray.toList_eq, ByteArray.toList_eq, beq_iff_eq]
  constructor
  · intro h
    have : a.data = b.data := by rw [← Array.toArray_toList (xs := a.data), h, Array.toArray_toList]
    cases a; cases b; simp at this; rw [this]
  · rintro rfl; rfl
theorem sEq_false {a b : ByteArray} : sEq a b = false ↔ a ≠ b := by
  rw [← Bool.not_eq_true, sEq_true]
def sIdx (s : ByteArray) : List ByteArray → Option Nat
  | [] => none
  | x :: r => if s = x then some 0 else (sIdx s r).map (· + 1)
def sIdxI (xs : List ByteArray) (s : ByteArray) : Int := match sIdx s xs with | some k => (k : Int) | none => -1
theorem sIdx_none : ∀ {xs : List ByteArray} {s : ByteArray}, (∀ k, (hk : k < xs.length) → s ≠ xs[k]) → sIdx s xs = none
  | [], _, _ => rfl
  | x :: r, s, h => by
    have h0 := h 0 (by simp)
    simp only [List.getElem_cons_zero] at h0
    simp only [sIdx, if_neg h0, sIdx_none (xs := r) (s := s) (fun k hk => by have := h (k + 1) (by simpa using hk); simpa using this), Option.map_none]
theorem sIdx_some : ∀ {xs : List ByteArray} {s : ByteArray} (k : Nat) (hk : k < xs.length), s = xs[k] → (∀ j, (hj : j < xs.length) → j < k → s ≠ xs[j]) → sIdx s xs = some k
  | [], _, _, hk, _, _ => by simp at hk
  | x :: r, s, 0, _, h, _ => by simp only [List.getElem_cons_zero] at h; simp only [sIdx, if_pos h]
  | x :: r, s, k + 1, hk, h, hj => by
    have h0 := hj 0 (by simp) (by omega)
    simp only [List.getElem_cons_zero] at h0
    simp only [sIdx, if_neg h0, sIdx_some (xs := r) (s := s) k (by simpa using hk) (by simpa using h) (fun j hjl hjk => by have := hj (j + 1) (by simpa using hjl) (by omega); simpa using this), Option.map_some]
def sMem (s : ByteArray) (xs : List ByteArray) : Bool := xs.any (sEq s)
theorem sMem_true {s : ByteArray} {xs : List ByteArray} : sMem s xs = true ↔ s ∈ xs := by
  unfold sMem
  rw [List.any_eq_true]
  constructor
  · rintro ⟨x, hx, h⟩
    rw [sEq_true.1 h]
    exact hx
  · intro h
    exact ⟨s, h, sEq_true.2 rfl⟩
theorem sIdx_mem : ∀ (xs : List ByteArray) (s : ByteArray), (sIdx s xs).isSome = sMem s xs
  | [], _ => rfl
  | x :: r, s => by
    unfold sIdx sMem
    rw [List.any_cons]
    by_cases hx : s = x
    · rw [if_pos hx, sEq_true.2 hx]; rfl
    · rw [if_neg hx, sEq_false.2 hx, Option.isSome_map, sIdx_mem r s]; rfl
theorem sIdxI_mem (xs : List ByteArray) (s : ByteArray) : decide (0 ≤ sIdxI xs s) = sMem s xs := by
  rw [← sIdx_mem]
  unfold sIdxI
  cases sIdx s xs with
  | none => rfl
  | some k => exact decide_eq_true (Int.natCast_nonneg k)
structure NotYet (xs : List ByteArray) (s : ByteArray) (k : Nat) : Prop where
  out : ∀ j, (hj : j < xs.length) → j < k → s ≠ xs[j]
set_option maxHeartbeats 1000000 in
theorem sIndex_any (w : World) (A : Option Addr) (n c : Nat) (xs : List ByteArray) (s : ByteArray) (hC : Kd.string.C w A n xs) :
    Calls Tryz.prog 46 #[.slice A n c, .string s] w fun e w' => e = .returned (.int .i64 (sIdxI xs s)) ∧ ∃ n, w' = w.drewN n := by
  obtain rfl := hC.1
  have hx : xs.length ≤ 9223372036854775807 := hC.2.1
  go_enter Tryz.func46, Tryz.ntmps46
  go_wp2
  go_loopw [8] (fun i wr => ∃ k n : Nat, k ≤ xs.length ∧ i = .int .i64 k ∧ NotYet xs s k ∧ wr = w.drewN n) (fun i _ => xs.length - (intOf i).toNat)
  case atStart => exact ⟨0, 0, Nat.zero_le _, rfl, ⟨fun j _ h => absurd h (Nat.not_lt_zero _)⟩, rfl⟩
  case round =>
    obtain ⟨k, n, hk, rfl, hN, rfl⟩ := hrel
    have HN := Aside0.mk hN
    clear hN
    by_cases hlt : k < xs.length
    · obtain ⟨a1, rfl, e1⟩ := C1_get hC k hlt
      clear hC
      by_cases hd : s = xs[k]
      · have hb : (s.toList == xs[k].toList) = true := sEq_true.2 hd
        have HD : Aside0 (sIdxI xs s = (k : Int)) := ⟨by unfold sIdxI; rw [sIdx_some k hlt hd HN.out.out]⟩
        clear hd
        go_wp2
        try (go_quiet (fail))
        try go_wp2
        go_ret
        exact ⟨by rw [HD.out]; rfl, _, by first | rfl | exact World.drewN_drewN ..⟩
      · have hb : (s.toList == xs[k].toList) = false := sEq_false.2 hd
        have HD : Aside0 (NotYet xs s (k + 1)) := ⟨⟨fun j hj hjk => by
          rcases Nat.lt_or_ge j k with h | h
          · exact HN.out.out j hj h
          · obtain rfl : j = k := by omega
            exact hd⟩⟩
        clear hd
        go_wp2
        try (go_quiet (fail))
        try go_wp2
        go_roundw
        case rel => exact ⟨k + 1, _, hlt, by go_num, HD.out, by first | rfl | exact World.drewN_drewN ..⟩
        case measure => simp [intOf]; omega
    · have HD : Aside0 (sIdxI xs s = -1) := ⟨by unfold sIdxI; rw [sIdx_none (fun j hj => HN.out.out j hj (by omega))]⟩
      go_wp2
      go_ret
      exact ⟨by rw [HD.out]; rfl, _, rfl⟩
set_option maxHeartbeats 1000000 in
theorem sContains_any (w : World) (A : Option Addr) (n c : Nat) (xs : List ByteArray) (s : ByteArray) (hC : Kd.string.C w A n xs) :
    Calls Tryz.prog 36 #[.slice A n c, .string s] w fun e w' => e = .returned (.bool (sMem s xs)) ∧ ∃ n, w' = w.drewN n := by
  have HM := Aside0.mk (sIdxI_mem xs s)
  go_enter Tryz.func36, Tryz.ntmps36
  go_wp2_with fail
  refine (sIndex_any _ A n c xs s hC).mono ?_
  rintro e w1 ⟨rfl, m, rfl⟩
  clear hC
  generalize sIdxI xs s = q at *
  go_wp2
  go_ret
  exact ⟨by rw [← HM.out]; rfl, _, rfl⟩
def fitsTwo (xs : List ByteArray) : Bool := decide (xs.length ≤ 2147483647) && xs.all fun s => decide (s.size ≤ 2147483647)
structure FitsTo (xs : List ByteArray) (k : Nat) : Prop where
  out : ∀ j, (hj : j < xs.length) → j < k → xs[j].size ≤ 2147483647
theorem fits2_true {xs : List ByteArray} (h1 : xs.length ≤ 2147483647) (h : ∀ k, (hk : k < xs.length) → xs[k].size ≤ 2147483647) : fitsTwo xs = true := by
  unfold fitsTwo
  rw [decide_eq_true h1, Bool.true_and, List.all_eq_true]
  intro x hx
  obtain ⟨k, hk, rfl⟩ := List.getElem_of_mem hx
  exact decide_eq_true (h k hk)
theorem fits2_false {xs : List ByteArray} {k : Nat} (hk : k < xs.length) (h : 2147483647 < xs[k].size) : fitsTwo xs = false := by
  unfold fitsTwo
  rw [Bool.and_eq_false_iff]
  right
  rw [Bool.eq_false_iff]
  intro ha
  have := List.all_eq_true.1 ha _ (List.getElem_mem hk)
  simp at this
  omega
set_option maxHeartbeats 1000000 in
theorem fits2_any (w : World) (A : Option Addr) (n c : Nat) (xs : List ByteArray) (hC : Kd.string.C w A n xs) :
    Calls Tryz.prog 14 #[.slice A n c] w fun e w' => e = .returned (.bool (fitsTwo xs)) ∧ w = w' := by
  obtain rfl := hC.1
  have hx : xs.length ≤ 9223372036854775807 := hC.2.1
  by_cases hl : 2147483647 < xs.length
  · have HF : Aside0 (fitsTwo xs = false) := ⟨by unfold fitsTwo; rw [decide_eq_false (by omega)]; rfl⟩
    clear hC
    go_enter Tryz.func14, Tryz.ntmps14
    go_wp2
    go_ret
    exact ⟨by rw [HF.out]; rfl, rfl⟩
  · have hl' : xs.length ≤ 2147483647 := by omega
    go_enter Tryz.func14, Tryz.ntmps14
    go_wp2
    go_loop [10] (fun i => ∃ k : Nat, k ≤ xs.length ∧ i = .int .i64 k ∧ FitsTo xs k) (fun i => xs.length - (intOf i).toNat)
    case atStart => exact ⟨0, Nat.zero_le _, rfl, ⟨fun j _ h => absurd h (Nat.not_lt_zero _)⟩⟩
    case round =>
      obtain ⟨k, hk, rfl, hT⟩ := hrel
      by_cases hlt : k < xs.length
      · obtain ⟨a1, rfl, e1⟩ := C1_get hC k hlt
        clear hC
        by_cases h2 : 2147483647 < xs[k].size
        · have HF := Aside0.mk (fits2_false hlt h2)
          go_wp2
          go_ret
          exact ⟨by rw [HF.out]; rfl, rfl⟩
        · have h3 : xs[k].size ≤ 2147483647 := by omega
          have HT : Aside0 (FitsTo xs (k + 1)) := ⟨⟨fun j hj hjk => by
            rcases Nat.lt_or_ge j k with h | h
            · exact hT.out j hj h
            · obtain rfl : j = k := by omega
              exact h3⟩⟩
          clear hT
          go_wp2
          go_round
          case rel => exact ⟨k + 1, hlt, by go_num, HT.out⟩
          case measure => simp [intOf]; omega
      · have HF := Aside0.mk (fits2_true hl' (fun j hj => hT.out j hj (by omega)))
        clear hT hC
        go_wp2
        go_ret
        exact ⟨by rw [HF.out]; rfl, rfl⟩
end Go.Proofs.YtgldcjmdjhghpaaGreatDoor
namespace Go.Proofs.YtgldcjmdjhghpaaGreatDoor
open Go.RowKit
set_option linter.unusedVariables false
theorem bStr_get (s : List UInt8) (k : Nat) (h : k < (bStr s).size) : (bStr s)[k]'h = s[k]'h := by
  show (bStr s).data[k] = _
  simp [bStr]
  rfl
theorem tget {t : ByteArray} {s : List UInt8} (ht : t = bStr s) (k : Nat) (h : k < t.size) (h2 : k < s.length) : t[k]'h = s[k]'h2 := by
  subst ht
  exact bStr_get s k h
theorem data_ext {a b : ByteArray} (h : a.data.toList = b.data.toList) : a = b := by
  cases a; cases b
  simp at h
  rw [h]
theorem bStr_list (s : List UInt8) : (bStr s).data.toList = s := by simp [bStr]
theorem bStr_ext (s : List UInt8) (a b : Nat) : (bStr s).extract a b = bStr ((s.take b).drop a) := by
  apply data_ext
  rw [bStr_list, ByteArray.data_extract, Array.toList_extract]
  simp only [bStr, List.extract_eq_take_drop]
  rw [List.drop_take]
theorem bStr_drop (s : List UInt8) (k : Nat) : (bStr s).extract k (bStr s).size = bStr (s.drop k) := by
  rw [bStr_ext, bStr_size, List.take_length]
theorem bStr_take (s : List UInt8) (k : Nat) : (bStr s).extract 0 k = bStr (s.take k) := by
  rw [bStr_ext, List.drop_zero]
/-- What is known of a text that is not empty. -/
structure TCons (t : ByteArray) (c : UInt8) (r : List UInt8) : Prop where
  eq : t = bStr (c :: r)
  pos : 0 < t.size
  ne : ¬ t = ByteArray.empty
  z : ((t.size : Int) == 0) = false
  at0 : ∀ h : 0 < t.size, t[0]'h = c
  tl : t.extract 1 t.size = bStr r
theorem tcons (c : UInt8) (r : List UInt8) : TCons (bStr (c :: r)) c r := by
  refine ⟨rfl, by rw [bStr_size]; simp, ?_, ?_, fun h => by rw [bStr_get]; rfl, bStr_drop _ 1⟩
  · intro h
    have := congrArg ByteArray.size h
    rw [bStr_size] at this
    simp at this
  · rw [bStr_size, beq_eq_false_iff_ne]
    simp
    omega
theorem bStr_nil : bStr [] = ByteArray.empty := rfl
/-- A byte against a number, as the walk has it. -/
theorem u8_eq {c d : UInt8} (h : c = d) : (c.toNat : Int) = (d.toNat : Int) := by rw [h]
theorem u8_ne {c d : UInt8} (h : c ≠ d) : ¬ (c.toNat : Int) = (d.toNat : Int) := fun e => h (UInt8.toNat_inj.1 (by omega))
theorem u8_beq (c d : UInt8) : ((c.toNat : Int) == (d.toNat : Int)) = (c == d) := by
  by_cases h : c = d
  · subst h; simp
  · rw [beq_eq_false_iff_ne.2 h, beq_eq_false_iff_ne]
    exact u8_ne h
/-- A byte that is another one, in the spellings of the walk. -/
structure NeC (c : UInt8) (d : Int) : Prop where
  ne : ¬ (c.toNat : Int) = d
  bne : ((c.toNat : Int) != d) = true
  beq : ((c.toNat : Int) == d) = false
theorem neC {c : UInt8} (d : Nat) (h : c.toNat ≠ d) : NeC c (d : Int) := by
  have h1 : ¬ (c.toNat : Int) = (d : Int) := by omega
  exact ⟨h1, by rw [bne_iff_ne]; exact h1, by rw [beq_eq_false_iff_ne]; exact h1⟩
theorem toNat_ne {c : UInt8} {d : UInt8} (h : c ≠ d) : c.toNat ≠ d.toNat := fun e => h (UInt8.toNat_inj.1 e)
end Go.Proofs.YtgldcjmdjhghpaaGreatDoor
