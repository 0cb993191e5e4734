/-
  Words of this session: what a walk holds in memory, as one list of assertions with separate footprints ('Hold'). Over the printed words (Kd). No program in sight.
  Words of this session: the operations of a walk over 'Hold'. No program in sight.
  Words of this session: arguments read by the shape of their type (whole numbers, truth values, texts, slices, structs), as the printed words' kinds. No program in sight.
  Words of this session: bytes as UInt8. No program in sight.
  A map of texts to values, among what is held: made, filled, looked up, ranged over. What a map of texts holds.
  Among what is held: a part of a row of one's own, cut at either end; several rows of one's own as one; a map's entry taken out.
  jwk's set: what it holds; its methods that only read: their contracts.
  jwk's set: NewSet, AddKey, Set, Remove, Clear: their contracts; a map's keys as a list of texts.
  jwk's set: Set, Remove, Clear, Keys: their contracts.
  jwk's set: Keys: its contract.
-/
import Derived.Test.YtpcbmjphffpplaaGreatDoorWWords
import Derived.Deep.Slices
import Derived.Deep.Fields
import Derived.ChangeSame
import Derived.SizedLaws
import Derived.ChangeSlices
import Derived.WalkSpells
import Derived.Laws.Strings
import Derived.Test.YtpcbmjphffpplaaGreatDoorRows
import Derived.WalkKit
import Derived.WalkLawsBesides
import Derived.StringKeys
import Derived.Maps.Own
import Derived.Maps.OwnSet
import Derived.Maps.Views
import Derived.Maps.RangeWalk
import Derived.Sort.KeysCollected
import Derived.Sort.MapsRangeIn
import Derived.ArgAppend
import Derived.LaidEql
namespace Go.Proofs.YtpcbmjphffpplaaGreatDoor
open Go.RowKit Go.Proofs.YtpcbmjphffpplaaGreatDoorW.PrintWords
set_option linter.unusedVariables false
set_option linter.unusedSimpArgs false

/-- What stands in some blocks. -/
structure Asrt where
  p : World → (Nat → Prop) → Prop
  loc : ∀ {w w1 : World} {f : Nat → Prop}, p w f → (∀ k, f k → k < w.heap.size → w1.heap[k]? = w.heap[k]?) → p w1 f
  mono : ∀ {w : World} {f f' : Nat → Prop}, (∀ k, f k → f' k) → p w f → p w f'
  bnd : ∀ {w : World} {f : Nat → Prop}, p w f → p w (fun k => f k ∧ k < w.heap.size)

/-- A row of the call's own. -/
def Asrt.row {α : Type} (d : Kd α) (e : Nat) (v : Value) (xs : List α) : Asrt where
  p := fun w f => d.R e w 0 f v xs
  loc := fun h hm => Kd.R_step h hm
  mono := fun hm h => Kd.R_mono h hm
  bnd := fun h => Kd.R_mono (Kd.R_bound h) (fun _ hk => ⟨hk.1, hk.2.2.1⟩)

/-- A block, as it is. -/
def Asrt.blk (g : Nat) (o : Obj) : Asrt where
  p := fun w f => f g ∧ w.heap[g]? = some o
  loc := fun h hm => ⟨h.1, (hm _ h.1 (blk_lt h.2)).trans h.2⟩
  mono := fun hm h => ⟨hm _ h.1, h.2⟩
  bnd := fun h => ⟨⟨h.1, blk_lt h.2⟩, h.2⟩

/-- Nothing. -/
def Asrt.emp : Asrt where
  p := fun _ _ => True
  loc := fun _ _ => trivial
  mono := fun _ _ => trivial
  bnd := fun _ => trivial

structure Chg (w w' : World) (f : Nat → Prop) : Prop where
  os : w'.os = w.os
  tape : w'.tape = w.tape
  output : w'.output = w.output
  size : w.heap.size ≤ w'.heap.size
  block : ∀ k, k < w.heap.size → ¬ f k → w'.heap[k]? = w.heap[k]?

theorem Chg.of_below {w w' : World} (h : Below w.heap.size w w') (f : Nat → Prop) : Chg w w' f := ⟨h.os, h.tape, h.output, h.size, fun k hk _ => h.block k hk⟩
theorem Chg.of_grown {w w' : World} {row : Option Nat} (h : w.grownBy w' row) {f : Nat → Prop} (hf : ∀ k, row = some k → f k) : Chg w w' f :=
  ⟨h.os, h.tape, h.output, h.size, fun k hk hn => h.block k hk (fun e => hn (hf k e.symm))⟩
theorem Chg.trans {w w1 w2 : World} {f : Nat → Prop} (h : Chg w w1 f) (k : Chg w1 w2 f) : Chg w w2 f :=
  ⟨k.os.trans h.os, k.tape.trans h.tape, k.output.trans h.output, Nat.le_trans h.size k.size, fun i hi hn => (k.block i (Nat.lt_of_lt_of_le hi h.size) hn).trans (h.block i hi hn)⟩

/-- Below B all is as it was in w0; the assertions hold, each in blocks of its own from B on. -/
structure Hold (w0 : World) (B : Nat) (w : World) (L : List Asrt) : Prop where
  below : Below B w0 w
  le : B ≤ w.heap.size
  own : ∃ F : Nat → Nat → Prop, (∀ (i : Nat) (a : Asrt), L[i]? = some a → a.p w (F i)) ∧ (∀ i k, F i k → B ≤ k ∧ k < w.heap.size) ∧ (∀ i j k, F i k → F j k → i = j)

section
variable {w0 w w' : World} {B : Nat} {L : List Asrt}
theorem Hold.start (w : World) : Hold w w.heap.size w [] := ⟨Below.refl _ _, Nat.le_refl _, fun _ _ => False, fun i a h => by simp at h, fun _ _ h => h.elim, fun _ _ _ h => h.elim⟩
theorem Hold.below_of_chg (hS : Hold w0 B w L) {f : Nat → Prop} (hc : Chg w w' f) (hf : ∀ k, f k → B ≤ k) : Below B w0 w' :=
  hS.below.trans ⟨hc.os, hc.tape, hc.output, hc.size, fun k hk => hc.block k (Nat.lt_of_lt_of_le hk hS.le) (fun h => by have := hf k h; omega)⟩
/-- Assertion i becomes another one. -/
theorem Hold.upd (hS : Hold w0 B w L) (i : Nat) {a a' : Asrt} (hi : L[i]? = some a)
    (H : ∀ f : Nat → Prop, a.p w f → ∃ f' : Nat → Prop, a'.p w' f' ∧ (∀ k, f' k → f k ∨ w.heap.size ≤ k) ∧ Chg w w' f) : Hold w0 B w' (L.set i a') := by
  obtain ⟨F, h1, h2, h3⟩ := hS.own
  obtain ⟨f', hp, hf', hc⟩ := H (F i) (h1 i a hi)
  have hlt : i < L.length := (List.getElem?_eq_some_iff.1 hi).1
  refine ⟨hS.below_of_chg hc (fun k hk => (h2 i k hk).1), Nat.le_trans hS.le hc.size, fun j => if j = i then (fun k => f' k ∧ k < w'.heap.size) else F j, ?_, ?_, ?_⟩
  · intro j b hj
    rw [List.getElem?_set] at hj
    by_cases e : i = j
    · subst e
      rw [if_pos rfl, if_pos hlt] at hj
      injection hj with hj
      subst hj
      simp only [if_true]
      exact a'.bnd hp
    · rw [if_neg e] at hj
      have e' : ¬ j = i := fun h => e h.symm
      simp only [if_neg e']
      refine b.loc (h1 j b hj) (fun k hk hks => hc.block k hks (fun hki => e (h3 _ _ _ hki hk)))
  · intro j k hk
    by_cases e : j = i
    · simp only [if_pos e] at hk
      refine ⟨?_, hk.2⟩
      rcases hf' k hk.1 with h | h
      · exact (h2 i k h).1
      · exact Nat.le_trans hS.le h
    · simp only [if_neg e] at hk
      exact ⟨(h2 j k hk).1, Nat.lt_of_lt_of_le (h2 j k hk).2 hc.size⟩
  · intro j l k hj hl
    by_cases ej : j = i <;> by_cases el : l = i
    · rw [ej, el]
    · simp only [if_pos ej] at hj
      simp only [if_neg el] at hl
      rcases hf' k hj.1 with h | h
      · exact absurd (h3 _ _ _ hl h) el
      · have := (h2 l k hl).2; omega
    · simp only [if_neg ej] at hj
      simp only [if_pos el] at hl
      rcases hf' k hl.1 with h | h
      · exact absurd (h3 _ _ _ hj h) ej
      · have := (h2 j k hj).2; omega
    · simp only [if_neg ej] at hj
      simp only [if_neg el] at hl
      exact h3 _ _ _ hj hl
/-- Something new. -/
theorem Hold.push (hS : Hold w0 B w L) {a : Asrt} {f' : Nat → Prop} (hp : a.p w' f') (hf' : ∀ k, f' k → w.heap.size ≤ k) (hc : Chg w w' (fun _ => False)) : Hold w0 B w' (a :: L) := by
  obtain ⟨F, h1, h2, h3⟩ := hS.own
  refine ⟨hS.below_of_chg hc (fun k hk => hk.elim), Nat.le_trans hS.le hc.size, fun j => match j with | 0 => (fun k => f' k ∧ k < w'.heap.size) | j + 1 => F j, ?_, ?_, ?_⟩
  · intro j b hj
    cases j with
    | zero => simp at hj; subst hj; exact a.bnd hp
    | succ j => exact b.loc (h1 j b (by simpa using hj)) (fun k _ hks => hc.block k hks (fun h => h))
  · intro j k hk
    cases j with
    | zero => exact ⟨Nat.le_trans hS.le (hf' k hk.1), hk.2⟩
    | succ j => exact ⟨(h2 j k hk).1, Nat.lt_of_lt_of_le (h2 j k hk).2 hc.size⟩
  · intro j l k hj hl
    cases j <;> cases l
    · rfl
    · have := hf' k hj.1; have := (h2 _ k hl).2; omega
    · have := hf' k hl.1; have := (h2 _ k hj).2; omega
    · rw [h3 _ _ _ hj hl]
theorem Hold.keep (hS : Hold w0 B w L) (hc : Chg w w' (fun _ => False)) : Hold w0 B w' L := by
  obtain ⟨F, h1, h2, h3⟩ := hS.own
  exact ⟨hS.below_of_chg hc (fun k hk => hk.elim), Nat.le_trans hS.le hc.size, F, fun j b hj => b.loc (h1 j b hj) (fun k _ hks => hc.block k hks (fun h => h)), fun j k hk => ⟨(h2 j k hk).1, Nat.lt_of_lt_of_le (h2 j k hk).2 hc.size⟩, h3⟩
theorem Hold.drew (hS : Hold w0 B w L) : Hold w0 B w.drew L := hS.keep ⟨rfl, rfl, rfl, Nat.le_refl _, fun _ _ _ => rfl⟩
theorem Hold.drewN (hS : Hold w0 B w L) (n : Nat) : Hold w0 B (w.drewN n) L := hS.keep ⟨rfl, rfl, rfl, Nat.le_refl _, fun _ _ _ => rfl⟩
theorem Hold.of_below (hS : Hold w0 B w L) (h : Below w.heap.size w w') : Hold w0 B w' L := hS.keep (Chg.of_below h _)
/-- A new block that nobody will ask for. -/
theorem Hold.alloc_ (hS : Hold w0 B w L) (o : Obj) : Hold w0 B (w.alloc o) L := hS.keep ⟨rfl, rfl, rfl, by simp, fun k hk _ => Below.heap_alloc _ _ _ hk⟩
theorem Hold.alloc (hS : Hold w0 B w L) (o : Obj) : Hold w0 B (w.alloc o) (.blk w.heap.size o :: L) :=
  hS.push (f' := fun k => k = w.heap.size) ⟨rfl, blk_new w o⟩ (fun k hk => by omega) ⟨rfl, rfl, rfl, by simp, fun k hk _ => Below.heap_alloc _ _ _ hk⟩
/-- Some of them, in another order. -/
theorem Hold.pick (hS : Hold w0 B w L) (σ : List Nat) (hσ : σ.Nodup) {L' : List Asrt} (h : L'.map some = σ.map (fun i => L[i]?)) : Hold w0 B w L' := by
  obtain ⟨F, h1, h2, h3⟩ := hS.own
  have hlen : L'.length = σ.length := by simpa using congrArg List.length h
  refine ⟨hS.below, hS.le, fun j => match σ[j]? with | some i => F i | none => fun _ => False, ?_, ?_, ?_⟩
  · intro j b hj
    have e : (σ.map (fun i => L[i]?))[j]? = some (some b) := by rw [← h]; simp [hj]
    rw [List.getElem?_map] at e
    cases hs : σ[j]? with
    | none => rw [hs] at e; simp at e
    | some i => rw [hs] at e; simp only [hs]; exact h1 i b (by simpa using e)
  · intro j k hk
    cases hs : σ[j]? with
    | none => rw [hs] at hk; exact hk.elim
    | some i => rw [hs] at hk; exact h2 i k hk
  · intro j l k hj hl
    cases hs : σ[j]? with
    | none => rw [hs] at hj; exact hj.elim
    | some i =>
      cases ht : σ[l]? with
      | none => rw [ht] at hl; exact hl.elim
      | some m =>
        rw [hs] at hj
        rw [ht] at hl
        have : i = m := h3 _ _ _ hj hl
        subst this
        have a1 := List.getElem?_eq_some_iff.1 hs
        have a2 := List.getElem?_eq_some_iff.1 ht
        obtain ⟨b1, c1⟩ := a1
        obtain ⟨b2, c2⟩ := a2
        exact (List.getElem_inj hσ).1 (c1.trans c2.symm)
theorem Hold.tail {a : Asrt} (hS : Hold w0 B w (a :: L)) : Hold w0 B w L := by
  obtain ⟨F, h1, h2, h3⟩ := hS.own
  exact ⟨hS.below, hS.le, fun j => F (j + 1), fun j b hj => h1 (j + 1) b (by simpa using hj), fun j k hk => h2 _ k hk, fun i j k hi hj => by have := h3 _ _ _ hi hj; omega⟩
theorem Hold.get (hS : Hold w0 B w L) (i : Nat) {a : Asrt} (hi : L[i]? = some a) : ∃ f : Nat → Prop, a.p w f ∧ ∀ k, f k → B ≤ k ∧ k < w.heap.size := by
  obtain ⟨F, h1, h2, _⟩ := hS.own
  exact ⟨F i, h1 i a hi, h2 i⟩
/-- What the printed contracts leave: a row that is new since w. -/
theorem Hold.new {α : Type} {d : Kd α} {e : Nat} {ok : Nat → Prop} {v : Value} {xs : List α} (hS : Hold w0 B w L) (hR : d.R e w' w.heap.size ok v xs) (hb : Below w.heap.size w w') : Hold w0 B w' (.row d e v xs :: L) :=
  hS.push (f' := fun k => w.heap.size ≤ k) (Kd.R_mono (Kd.R_lower (Kd.R_bound hR) (Nat.zero_le _)) (fun k hk => hk.2.1)) (fun k hk => hk) (Chg.of_below hb _)
theorem Hold.nil {α : Type} (d : Kd α) (e : Nat) (hS : Hold w0 B w L) : Hold w0 B w (.row d e (.slice none 0 0) [] :: L) :=
  hS.push (f' := fun _ => False) (Kd.R_nil d e w 0 _) (fun k hk => hk.elim) ⟨rfl, rfl, rfl, Nat.le_refl _, fun _ _ _ => rfl⟩
/-- What is read below B reads as it did. -/
theorem Hold.C {α : Type} {d : Kd α} {A : Option Addr} {n : Nat} {xs : List α} (hS : Hold w0 w0.heap.size w L) (h : d.C w0 A n xs) : d.C w A n xs := Kd.C_below h hS.below
theorem Hold.reads {α : Type} {d : Kd α} {e : Nat} {v : Value} {xs : List α} (hS : Hold w0 B w L) (i : Nat) (hi : L[i]? = some (.row d e v xs)) : ∃ A c, v = .slice A xs.length c ∧ xs.length ≤ c ∧ d.C w A xs.length xs := by
  obtain ⟨f, hp, _⟩ := hS.get i hi
  exact Kd.R_reads hp
theorem Hold.blk {g : Nat} {o : Obj} (hS : Hold w0 B w L) (i : Nat) (hi : L[i]? = some (.blk g o)) : w.heap[g]? = some o := by
  obtain ⟨f, hp, _⟩ := hS.get i hi
  exact hp.2
theorem Hold.blk_lt {g : Nat} {o : Obj} (hS : Hold w0 B w L) (i : Nat) (hi : L[i]? = some (.blk g o)) : g < w.heap.size := (Array.getElem?_eq_some_iff.1 (hS.blk i hi)).1
theorem Hold.blk_ge {g : Nat} {o : Obj} (hS : Hold w0 B w L) (i : Nat) (hi : L[i]? = some (.blk g o)) : B ≤ g := by
  obtain ⟨f, hp, hb⟩ := hS.get i hi
  exact (hb g hp.1).1
/-- A cell of a block, for the walk: what it holds, that it may be written, that its block is there. -/
theorem Hold.cell {g : Nat} {cs : Array Value} {t : Nat} (hS : Hold w0 B w L) (i : Nat) (hi : L[i]? = some (.blk g (.cells cs t (0, 0)))) (j : Nat) (hj : j < cs.size) :
    w.cell? ⟨g, j, none⟩ = some cs[j] ∧ w.frozen? ⟨g, j, none⟩ = false := by
  have h := hS.blk i hi
  constructor
  · simp [World.cell?, h, hj]
  · simp [World.frozen?, h]
/-- A store. -/
theorem Hold.store {g : Nat} {cs : Array Value} {t : Nat} {fr : Nat × Nat} (hS : Hold w0 B w L) (i : Nat) (hi : L[i]? = some (.blk g (.cells cs t fr))) (j : Nat) (u : Value) :
    Hold w0 B (w.setCell ⟨g, j, none⟩ u) (L.set i (.blk g (.cells (cs.setIfInBounds j u) t fr))) :=
  hS.upd i hi (fun f hp => ⟨f, ⟨hp.1, by
    have h := hp.2
    simp only [World.setCell, Array.getElem?_modify, if_true, h, Option.map_some]
    rfl⟩, fun k hk => .inl hk, ⟨rfl, rfl, rfl, by simp [World.setCell], fun k _ hn => Below.heap_setCell w ⟨g, j, none⟩ u k (fun e => hn (by have e' : k = g := e; rw [e']; exact hp.1))⟩⟩)
end
end Go.Proofs.YtpcbmjphffpplaaGreatDoor
namespace Go.Proofs.YtpcbmjphffpplaaGreatDoor
open Go.RowKit Go.Proofs.YtpcbmjphffpplaaGreatDoorW.PrintWords
set_option linter.unusedVariables false
set_option linter.unusedSimpArgs false

section
variable {w0 w : World} {B : Nat} {L : List Asrt}
theorem Hold.focus (hS : Hold w0 B w L) (i : Nat) {a : Asrt} (hi : L[i]? = some a) : ∃ f : Nat → Prop, a.p w f ∧ (∀ k, f k → B ≤ k ∧ k < w.heap.size) ∧
    ∀ (w' : World) (a' : Asrt) (f' : Nat → Prop), a'.p w' f' → (∀ k, f' k → f k ∨ w.heap.size ≤ k) → Chg w w' f → Hold w0 B w' (L.set i a') := by
  obtain ⟨F, h1, h2, h3⟩ := hS.own
  refine ⟨F i, h1 i a hi, h2 i, fun w' a' f' hp hf' hc => ?_⟩
  have hS' : Hold w0 B w L := ⟨hS.below, hS.le, F, h1, h2, h3⟩
  have hlt : i < L.length := (List.getElem?_eq_some_iff.1 hi).1
  refine ⟨hS'.below_of_chg hc (fun k hk => (h2 i k hk).1), Nat.le_trans hS.le hc.size, fun j => if j = i then (fun k => f' k ∧ k < w'.heap.size) else F j, ?_, ?_, ?_⟩
  · intro j b hj
    rw [List.getElem?_set] at hj
    by_cases e : i = j
    · subst e
      rw [if_pos rfl, if_pos hlt] at hj
      injection hj with hj
      subst hj
      simp only [if_true]
      exact a'.bnd hp
    · rw [if_neg e] at hj
      have e' : ¬ j = i := fun h => e h.symm
      simp only [if_neg e']
      exact b.loc (h1 j b hj) (fun k hk hks => hc.block k hks (fun hki => e (h3 _ _ _ hki hk)))
  · intro j k hk
    by_cases e : j = i
    · simp only [if_pos e] at hk
      refine ⟨?_, hk.2⟩
      rcases hf' k hk.1 with h | h
      · exact (h2 i k h).1
      · exact Nat.le_trans hS.le h
    · simp only [if_neg e] at hk
      exact ⟨(h2 j k hk).1, Nat.lt_of_lt_of_le (h2 j k hk).2 hc.size⟩
  · intro j l k hj hl
    by_cases ej : j = i <;> by_cases el : l = i
    · rw [ej, el]
    · simp only [if_pos ej] at hj
      simp only [if_neg el] at hl
      rcases hf' k hj.1 with h | h
      · exact absurd (h3 _ _ _ hl h) el
      · have := (h2 l k hl).2; omega
    · simp only [if_neg ej] at hj
      simp only [if_pos el] at hl
      rcases hf' k hl.1 with h | h
      · exact absurd (h3 _ _ _ hj h) ej
      · have := (h2 j k hj).2; omega
    · simp only [if_neg ej] at hj
      simp only [if_neg el] at hl
      exact h3 _ _ _ hj hl
/-- What a callee has made since w, beside what was held. -/
theorem Hold.app {w' : World} {M : List Asrt} (hS : Hold w0 B w L) (hN : Hold w w.heap.size w' M) : Hold w0 B w' (M ++ L) := by
  obtain ⟨F, h1, h2, h3⟩ := hS.own
  obtain ⟨G, g1, g2, g3⟩ := hN.own
  have hb := hN.below
  refine ⟨hS.below_of_chg (Chg.of_below hb (fun _ => False)) (fun k hk => hk.elim), Nat.le_trans hS.le hb.size, fun i => if i < M.length then G i else F (i - M.length), ?_, ?_, ?_⟩
  · intro i a hi
    by_cases e : i < M.length
    · simp only [if_pos e]
      exact g1 i a (by rwa [List.getElem?_append_left e] at hi)
    · simp only [if_neg e]
      rw [List.getElem?_append_right (by omega)] at hi
      exact a.loc (h1 _ a hi) (fun k _ hks => hb.block k hks)
  · intro i k hk
    by_cases e : i < M.length
    · simp only [if_pos e] at hk
      exact ⟨Nat.le_trans hS.le (g2 i k hk).1, (g2 i k hk).2⟩
    · simp only [if_neg e] at hk
      exact ⟨(h2 _ k hk).1, Nat.lt_of_lt_of_le (h2 _ k hk).2 hb.size⟩
  · intro i j k hi hj
    by_cases ei : i < M.length <;> by_cases ej : j < M.length
    · simp only [if_pos ei] at hi
      simp only [if_pos ej] at hj
      exact g3 _ _ _ hi hj
    · simp only [if_pos ei] at hi
      simp only [if_neg ej] at hj
      have := (g2 i k hi).1; have := (h2 _ k hj).2; omega
    · simp only [if_neg ei] at hi
      simp only [if_pos ej] at hj
      have := (g2 j k hj).1; have := (h2 _ k hi).2; omega
    · simp only [if_neg ei] at hi
      simp only [if_neg ej] at hj
      have := h3 _ _ _ hi hj; omega
/-- The cell of a variable of one cell, for the walk. -/
theorem Hold.cell1 {g t : Nat} {v : Value} (hS : Hold w0 B w L) (i : Nat) (hi : L[i]? = some (.blk g (.cells #[v] t (0, 0)))) : w.cell? ⟨g, 0, none⟩ = some v ∧ w.frozen? ⟨g, 0, none⟩ = false ∧ g < w.heap.size :=
  ⟨(hS.cell i hi 0 (by simp)).1, (hS.cell i hi 0 (by simp)).2, hS.blk_lt i hi⟩
theorem Hold.down (hS : Hold w0 B w L) : w0.heap.size ≤ w.heap.size := hS.below.size
/-- A block that holds just a row's cells, as a row. -/
theorem Hold.toRow {α : Type} {d : Kd α} {e g n c : Nat} {cs : Array Value} {xs : List α} (hS : Hold w0 B w L) (i : Nat) (hi : L[i]? = some (.blk g (.cells cs e (0, 0))))
    (hrep : Reps (d.M w 0 (fun _ => False)) d.sz xs (cs.toList.take (n * d.sz))) (hn : n = xs.length) (hnc : n ≤ c) (hc : c ≤ maxLen) (hsz : cs.size = c * d.sz) : Hold w0 B w (L.set i (.row d e (.slice (some ⟨g, 0, none⟩) n c) xs)) := by
  obtain ⟨f, hp, hb, hk⟩ := hS.focus i hi
  subst hn
  refine hk w _ f ?_ (fun k h => .inl h) ⟨rfl, rfl, rfl, Nat.le_refl _, fun _ _ _ => rfl⟩
  refine ⟨fun k h => ?_, cs.toList.take (xs.length * d.sz), ⟨?_, .inr ⟨g, c, cs, rfl, Nat.zero_le _, hp.2, hnc, hc, hsz, rfl⟩⟩, hrep.imp_ (fun _ _ h => d.M_mono (fun k hk => hk.elim) h)⟩
  · have : g = k := by simpa [Value.ownBlock] using h
    subst this
    exact hp.1
  · rw [hrep.1]
/-- A row as a block, if it is not nil. -/
theorem Hold.toBlk {α : Type} {enc : α → Value} {h1 : ∀ x, (enc x).oneCell' = true} {e : Nat} {v : Value} {xs : List α} (hS : Hold w0 B w L) (i : Nat) (hi : L[i]? = some (.row (Kd.scalar enc h1) e v xs)) (hne : xs ≠ []) :
    ∃ g c cs, v = .slice (some ⟨g, 0, none⟩) xs.length c ∧ xs.length ≤ c ∧ c ≤ maxLen ∧ cs.size = c ∧ cs.toList.take xs.length = xs.map enc ∧ Hold w0 B w (L.set i (.blk g (.cells cs e (0, 0)))) := by
  obtain ⟨f, hp, hb, hk⟩ := hS.focus i hi
  obtain ⟨h0, inner, ho, hr⟩ := hp
  have hin : inner = xs.map enc := by
    apply List.ext_getElem?
    intro j
    have hl := hr.1
    have h2 := hr.2
    simp only [Kd.scalar, Nat.mul_one] at hl h2
    rcases Nat.lt_or_ge j xs.length with hj | hj
    · have h3 := h2 j xs[j] (List.getElem?_eq_getElem hj)
      rw [List.getElem?_map, List.getElem?_eq_getElem hj, List.getElem?_eq_getElem (by omega)]
      have h4 : (List.take 1 (List.drop j inner)) = [inner[j]'(by omega)] := by
        rw [List.drop_eq_getElem_cons (by omega)]
        rfl
      rw [h4] at h3
      simpa using h3
    · rw [List.getElem?_map, List.getElem?_eq_none hj, List.getElem?_eq_none (by omega)]
      rfl
  rcases ho.2 with ⟨_, hn⟩ | ⟨g, cap, cur, rfl, _, hh, hnc, hcm, hcs, htake⟩
  · exact absurd (List.eq_nil_of_length_eq_zero hn) hne
  · refine ⟨g, cap, cur, rfl, hnc, hcm, by simpa [Kd.scalar] using hcs, ?_, hk w _ f ⟨h0 g (by simp [Value.ownBlock]), hh⟩ (fun k h => .inl h) ⟨rfl, rfl, rfl, Nat.le_refl _, fun _ _ _ => rfl⟩⟩
    rw [← hin, ← htake]
    simp [Kd.scalar]
/-- An element of a row of pairs. -/
theorem C2_get {α β : Type} {e1 : α → Value} {e2 : β → Value} {h1 : ∀ x, (e1 x).oneCell' = true} {h2 : ∀ x, (e2 x).oneCell' = true} {A : Option Addr} {n : Nat} {xs : List (α × β)} (h : (Kd.pair (Kd.scalar e1 h1) (Kd.scalar e2 h2)).C w A n xs) (k : Nat) (hk : k < xs.length) :
    ∃ ad, A = some ad ∧ w.cell? (ad.add (k * 2)) = some (e1 xs[k].1) ∧ w.cell? ⟨(ad.add (k * 2)).block, (ad.add (k * 2)).off + 1, none⟩ = some (e2 xs[k].2) := by
  obtain ⟨ad, c, e, hl, hK, hc⟩ := Kd.C_get h xs[k] (k : Int) (by omega) (by have := h.1; omega)
  simp only [Int.toNat_natCast, List.getD_eq_getElem?_getD, List.getElem?_eq_getElem hk, Option.getD_some] at hK hc
  obtain ⟨c0, c1, rfl, rfl, rfl⟩ := hK
  refine ⟨ad, e, hc 0 _ rfl, ?_⟩
  rw [← add_field _ _ 1 (by omega)]
  exact hc 1 _ rfl
theorem C1_get {α : Type} {e1 : α → Value} {h1 : ∀ x, (e1 x).oneCell' = true} {A : Option Addr} {n : Nat} {xs : List α} (h : (Kd.scalar e1 h1).C w A n xs) (k : Nat) (hk : k < xs.length) :
    ∃ ad, A = some ad ∧ w.cell? (ad.add k) = some (e1 xs[k]) := by
  obtain ⟨ad, c, e, hl, hK, hc⟩ := Kd.C_get h xs[k] (k : Int) (by omega) (by have := h.1; omega)
  simp only [Int.toNat_natCast, List.getD_eq_getElem?_getD, List.getElem?_eq_getElem hk, Option.getD_some] at hK hc
  refine ⟨ad, e, ?_⟩
  have hK' : c = [e1 xs[k]] := hK
  subst hK'
  have := hc 0 _ rfl
  simpa [Kd.scalar] using this
theorem reps_scalar {α : Type} {enc : α → Value} {h1 : ∀ x, (enc x).oneCell' = true} (w : World) (b : Nat) (ok : Nat → Prop) (xs : List α) : Reps ((Kd.scalar enc h1).M w b ok) (Kd.scalar enc h1).sz xs (xs.map enc) := by
  refine ⟨by simp [Kd.scalar], fun j p hj => ?_⟩
  have hlt := (List.getElem?_eq_some_iff.1 hj).1
  have hp := (List.getElem?_eq_some_iff.1 hj).2
  simp only [Kd.scalar, Nat.mul_one]
  rw [List.drop_eq_getElem_cons (by simpa using hlt)]
  simp [hp]
theorem reps_cons {α : Type} {R : α → List Value → Prop} {size : Nat} {p : α} {ps : List α} {c cs : List Value} (hp : R p c) (hc : c.length = size) (h : Reps R size ps cs) : Reps R size (p :: ps) (c ++ cs) := by
  refine ⟨by rw [List.length_append, h.1, hc, List.length_cons, Nat.succ_mul, Nat.add_comm], fun j q hj => ?_⟩
  cases j with
  | zero =>
    have : p = q := by simpa using hj
    subst this
    rw [Nat.zero_mul, List.drop_zero, ← hc, List.take_left]
    exact hp
  | succ j =>
    have h2 := h.2 j q (by simpa using hj)
    rw [Nat.succ_mul, Nat.add_comm, ← List.drop_drop, ← hc, List.drop_left, hc]
    exact h2
theorem reps_pair {α β : Type} {e1 : α → Value} {e2 : β → Value} {h1 : ∀ x, (e1 x).oneCell' = true} {h2 : ∀ x, (e2 x).oneCell' = true} (w : World) (b : Nat) (ok : Nat → Prop) :
    ∀ xs : List (α × β), Reps ((Kd.pair (Kd.scalar e1 h1) (Kd.scalar e2 h2)).M w b ok) (Kd.pair (Kd.scalar e1 h1) (Kd.scalar e2 h2)).sz xs (xs.flatMap fun x => [e1 x.1, e2 x.2])
  | [] => Reps.none _ _
  | x :: r => by
    rw [List.flatMap_cons]
    exact reps_cons ⟨[e1 x.1], [e2 x.2], rfl, rfl, rfl⟩ rfl (reps_pair w b ok r)
/-- A literal row, read. -/
theorem C_lit {α : Type} {d : Kd α} (w : World) (e g : Nat) (hg : w.heap.size = g) (xs : List α) (cs : Array Value) (hrep : Reps (d.M (w.alloc (.cells cs e)) 0 (fun _ => False)) d.sz xs cs.toList) (hm : xs.length ≤ maxLen) : d.C (w.alloc (.cells cs e)) (some ⟨g, 0, none⟩) xs.length xs := by
  subst hg
  have h := ((Hold.start w).alloc (.cells cs e)).toRow 0 (d := d) (n := xs.length) (c := xs.length) (xs := xs) rfl (by rw [← hrep.1, List.take_length]; exact hrep) rfl (Nat.le_refl _) hm (by rw [← hrep.1]; simp)
  obtain ⟨A, c, he, _, hC⟩ := h.reads 0 rfl
  injection he with he
  subst he
  exact hC
theorem C1_lit {α : Type} {enc : α → Value} {h1 : ∀ x, (enc x).oneCell' = true} (w : World) (e g : Nat) (hg : w.heap.size = g) (xs : List α) (hm : xs.length ≤ maxLen) : (Kd.scalar enc h1).C (w.alloc (.cells (xs.map enc).toArray e)) (some ⟨g, 0, none⟩) xs.length xs :=
  C_lit w e g hg xs _ (reps_scalar _ _ _ xs) hm

/-- A row that is not empty: where it stands. -/
theorem Hold.form {α : Type} {d : Kd α} {e : Nat} {v : Value} {xs : List α} (hS : Hold w0 B w L) (i : Nat) (hi : L[i]? = some (.row d e v xs)) (hne : 0 < xs.length) :
    ∃ g c, v = .slice (some ⟨g, 0, none⟩) xs.length c ∧ xs.length ≤ c ∧ g < w.heap.size ∧ B ≤ g ∧ ∀ o, w.frozen? ⟨g, o, none⟩ = false := by
  obtain ⟨f, hp, hb⟩ := hS.get i hi
  obtain ⟨h0, inner, ho, hr⟩ := hp
  rcases ho.2 with ⟨_, hn⟩ | ⟨g, cap, cur, rfl, _, hh, hnc, hcm, hcs, htake⟩
  · omega
  · have hg := hb g (h0 g (by simp [Value.ownBlock]))
    exact ⟨g, cap, rfl, hnc, hg.2, hg.1, fun o => by simp [World.frozen?, hh]⟩
theorem setCells_one (w : World) (g o : Nat) (u : Value) : w.setCells g o [u] = w.setCell ⟨g, o, none⟩ u := rfl
/-- A store into a cell of a row. -/
theorem Hold.setCell {α : Type} {d : Kd α} {e g n cap : Nat} {xs : List α} (hS : Hold w0 B w L) (i : Nat) (hi : L[i]? = some (.row d e (.slice (some ⟨g, 0, none⟩) n cap) xs)) (k j : Nat) (hk : k < n) (u : Value) (x' : α) (hj : j < d.sz)
    (c : List Value) (hcl : c.length = d.sz) (hcc : ∀ j u, c[j]? = some u → w.cell? ⟨g, k * d.sz + j, none⟩ = some u) (hM : d.M w 0 (fun _ => False) x' (c.set j u)) :
    Hold w0 B (w.setCell ⟨g, k * d.sz + j, none⟩ u) (L.set i (.row d e (.slice (some ⟨g, 0, none⟩) n cap) (xs.set k x'))) := by
  obtain ⟨f, hp, hb, hF⟩ := hS.focus i hi
  have hseg : c.take j ++ [u] ++ c.drop (j + 1) = c.set j u := by
    rw [List.set_eq_take_append_cons_drop, if_pos (by omega)]
    simp
  have h := Kd.R_seg hp (k : Int) (by omega) (by omega) (c := c) (seg := [u]) (j := j) hcl hcc (show j + [u].length ≤ d.sz from hj) (okp := fun _ => False) (x' := x') (by
    show d.M w 0 _ x' (c.take j ++ [u] ++ c.drop (j + [u].length))
    rw [show j + [u].length = j + 1 from rfl, hseg]
    exact hM) (fun _ h => h.elim)
  simp only [Int.toNat_natCast] at h
  rw [setCells_one] at h
  exact hF _ _ f h.1 (fun k h => .inl h) (Chg.of_grown h.2 (fun k e => by injection e with e; subst e; exact hp.1 _ (by simp [Value.ownBlock])))
/-- The same where an element is one cell. -/
theorem Hold.setCell1 {α : Type} {enc : α → Value} {h1 : ∀ x, (enc x).oneCell' = true} {e g n cap : Nat} {xs : List α} (hS : Hold w0 B w L) (i : Nat) (hi : L[i]? = some (.row (Kd.scalar enc h1) e (.slice (some ⟨g, 0, none⟩) n cap) xs)) (k : Nat) (hk : k < n) (x' : α) :
    Hold w0 B (w.setCell ⟨g, k, none⟩ (enc x')) (L.set i (.row (Kd.scalar enc h1) e (.slice (some ⟨g, 0, none⟩) n cap) (xs.set k x'))) := by
  obtain ⟨A, c, he, _, hC⟩ := hS.reads i hi
  injection he with hA hn hc
  subst hA
  subst hn
  obtain ⟨ad, hA, hcell⟩ := C1_get hC k hk
  injection hA with hA
  subst hA
  rw [add_plain] at hcell
  have h := hS.setCell i hi k 0 hk (enc x') x' (show 0 < 1 from Nat.one_pos) [enc xs[k]] rfl (by
    intro j u hu
    cases j with
    | zero =>
      have : enc xs[k] = u := by simpa using hu
      subst this
      show w.cell? ⟨g, k * 1 + 0, none⟩ = _
      rw [Nat.mul_one, Nat.add_zero]
      exact hcell
    | succ j => simp at hu) rfl
  have e1 : k * (Kd.scalar enc h1).sz + 0 = k := by show k * 1 + 0 = k; omega
  rw [e1] at h
  exact h
/-- An element of a row of one's own, for the walk. -/
theorem Hold.at1 {α : Type} {enc : α → Value} {h1 : ∀ x, (enc x).oneCell' = true} {e g n cap : Nat} {xs : List α} (hS : Hold w0 B w L) (i : Nat) (hi : L[i]? = some (.row (Kd.scalar enc h1) e (.slice (some ⟨g, 0, none⟩) n cap) xs)) (k : Nat) (hk : k < xs.length) : w.cell? ⟨g, k, none⟩ = some (enc xs[k]) := by
  obtain ⟨A, c, he, _, hC⟩ := hS.reads i hi
  injection he with hA hn hc
  subst hA
  subst hn
  obtain ⟨ad, hA, hcell⟩ := C1_get hC k hk
  injection hA with hA
  subst hA
  rwa [add_plain] at hcell
theorem Hold.at2 {α β : Type} {e1 : α → Value} {e2 : β → Value} {h1 : ∀ x, (e1 x).oneCell' = true} {h2 : ∀ x, (e2 x).oneCell' = true} {e g n cap : Nat} {xs : List (α × β)} (hS : Hold w0 B w L) (i : Nat) (hi : L[i]? = some (.row (Kd.pair (Kd.scalar e1 h1) (Kd.scalar e2 h2)) e (.slice (some ⟨g, 0, none⟩) n cap) xs)) (k : Nat) (hk : k < xs.length) :
    w.cell? ⟨g, k * 2, none⟩ = some (e1 xs[k].1) ∧ w.cell? ⟨g, k * 2 + 1, none⟩ = some (e2 xs[k].2) := by
  obtain ⟨A, c, he, _, hC⟩ := hS.reads i hi
  injection he with hA hn hc
  subst hA
  subst hn
  obtain ⟨ad, hA, hc1, hc2⟩ := C2_get hC k hk
  injection hA with hA
  subst hA
  rw [add_plain] at hc1 hc2
  exact ⟨hc1, hc2⟩

theorem splice_take {β : Type} (l Y : List β) (off k n : Nat) (hY : Y.length = k) (h : off + k ≤ n) (hn : n ≤ l.length) : (l.take off ++ Y ++ l.drop (off + k)).take n = (l.take n).take off ++ Y ++ (l.take n).drop (off + k) := by
  have hA : (l.take off ++ Y).length = off + k := by rw [List.length_append, List.length_take, hY]; omega
  rw [List.take_append, hA, List.take_of_length_le (by omega), List.take_take, Nat.min_eq_left (by omega), List.drop_take]
/-- A row as the block that it lies in. -/
theorem Hold.rowOpen {α : Type} {enc : α → Value} {h1 : ∀ x, (enc x).oneCell' = true} {e g n cap : Nat} {xs : List α} (hS : Hold w0 B w L) (i : Nat) (hi : L[i]? = some (.row (Kd.scalar enc h1) e (.slice (some ⟨g, 0, none⟩) n cap) xs)) :
    ∃ cs : Array Value, cs.size = cap ∧ n ≤ cap ∧ cap ≤ maxLen ∧ cs.toList.take n = xs.map enc ∧ xs.length = n ∧ Hold w0 B w (L.set i (.blk g (.cells cs e (0, 0)))) := by
  obtain ⟨A, c, he, _, _⟩ := hS.reads i hi
  injection he with _ hn hc
  subst hn
  rcases Nat.eq_zero_or_pos xs.length with hz | hp
  · obtain ⟨f, hp, hb, hk⟩ := hS.focus i hi
    obtain ⟨h0, inner, ho, hr⟩ := hp
    rcases ho.2 with ⟨hv, _⟩ | ⟨g', cap', cur, hv, _, hh, hnc, hcm, hcs, htake⟩
    · cases hv
    · injection hv with ha _ hc
      injection ha with ha
      injection ha with hg
      subst hg; subst hc
      have hxs : xs = [] := List.eq_nil_of_length_eq_zero hz
      subst hxs
      exact ⟨cur, by simpa [Kd.scalar] using hcs, hnc, hcm, by simp, rfl, hk w _ f ⟨h0 g (by simp [Value.ownBlock]), hh⟩ (fun k h => .inl h) ⟨rfl, rfl, rfl, Nat.le_refl _, fun _ _ _ => rfl⟩⟩
  · obtain ⟨g', c', cs, hv, h2, h3, h4, h5, h6⟩ := hS.toBlk i hi (by rintro rfl; simp at hp)
    injection hv with ha _ hc
    injection ha with ha
    injection ha with hg
    subst hg; subst hc
    exact ⟨cs, h4, h2, h3, h5, rfl, h6⟩
theorem Hold.blkRow {α : Type} {enc : α → Value} {h1 : ∀ x, (enc x).oneCell' = true} {e g n cap : Nat} {cs : Array Value} {xs : List α} (hS : Hold w0 B w L) (i : Nat) (hi : L[i]? = some (.blk g (.cells cs e (0, 0)))) (hsz : cs.size = cap) (hnc : n ≤ cap) (hc : cap ≤ maxLen) (ht : cs.toList.take n = xs.map enc) (hn : n = xs.length) :
    Hold w0 B w (L.set i (.row (Kd.scalar enc h1) e (.slice (some ⟨g, 0, none⟩) n cap) xs)) :=
  hS.toRow i hi (by
    have e1 : n * (Kd.scalar enc h1).sz = n := Nat.mul_one n
    rw [e1, ht]
    exact reps_scalar _ _ _ _) hn hnc hc (by rw [hsz]; exact (Nat.mul_one cap).symm)
theorem list_set_set {L : List Asrt} {i : Nat} {a b : Asrt} : (L.set i a).set i b = L.set i b := List.set_set ..
theorem list_set_at {L : List Asrt} {i : Nat} {a b : Asrt} (hi : L[i]? = some b) : (L.set i a)[i]? = some a := by
  rw [List.getElem?_set, if_pos rfl, if_pos (List.getElem?_eq_some_iff.1 hi).1]
/-- A block's cells, all anew. -/
theorem Hold.setRow {g t : Nat} {cs cs' : Array Value} (hS : Hold w0 B w L) (i : Nat) (hi : L[i]? = some (.blk g (.cells cs t (0, 0)))) : Hold w0 B (w.setRow g cs') (L.set i (.blk g (.cells cs' t (0, 0)))) :=
  hS.upd i hi (fun f hp => ⟨f, ⟨hp.1, setRow_heap w g cs _ t _ hp.2⟩, fun k hk => .inl hk, ⟨rfl, rfl, rfl, by simp [World.setRow], fun k _ hn => setRow_other w g k _ (fun e => hn (by rw [e]; exact hp.1))⟩⟩)
end

section
variable {P : Program} {ops : Array Oper} {rest : List Oper} {o : Oper} {a : Act} {Q : Exit → Act → World → Prop} {α : Type} {w0 W : World} {B : Nat} {L : List Asrt}
/-- Is it this operation that stands next? -/
theorem at_bi {b : Builtin} {xs : Array Operand} {ts : Array TypeId} (_ho : o.op = .call { callee := .builtin b, args := xs, argTypes := ts }) (h : wpList P ops Q (o :: rest) a W) : wpList P ops Q (o :: rest) a W := h
theorem at_dst {N : Tmp} (_hN : o.dst = some N) (h : wpList P ops Q (o :: rest) a W) : wpList P ops Q (o :: rest) a W := h
/-- append(v, x), x of one kind that leads to no row. -/
theorem Hold.append1 (d : Kd α) (i : Nat) (hS : Hold w0 B W L) {e : Nat} {v : Value} {xs : List α} (hi : L[i]? = some (.row d e v xs)) (hgd : o.guard = none) (s x : Operand) (t : TypeId) (z : Value) (bytes : Nat)
    (ho : o.op = .call { callee := .builtin .append, args := #[s, x], argTypes := #[t, t] })
    (ht : P.underlying t = some (.slice e)) (hinfo : (P.info? e).map (fun i => (i.zero, i.size, i.bytes)) = some (some z, d.sz, bytes)) (hz : z.cells.size = d.sz) (hs0 : 0 < d.sz) (hb0 : 0 < bytes)
    (p : α) (cs : List Value) (hs : a.eval s = v) (hx : a.eval x = .slice (some ⟨W.heap.size, 0, none⟩) 1 1) (hp : d.M W 0 (fun _ => False) p cs) (hl : (xs.length + 1) * bytes ≤ 140737488355328)
    (h : ∀ v1 w1, Hold w0 B w1 (L.set i (.row d e v1 (xs ++ [p]))) → wpList P ops Q rest (a.put o.dst v1) w1) : wpList P ops Q (o :: rest) a (W.alloc (.cells cs.toArray e)) := by
  obtain ⟨f, hR, hb, hk⟩ := hS.focus i hi
  refine Kd.R_append d (w0 := W) 0 hgd s x t e z bytes ho ht hinfo hz hs0 hb0 v xs p cs (fun k => f k ∨ W.heap.size ≤ k) (fun _ => False) hs hx hp (fun _ h => h.elim) (fun k h => .inr h) (Kd.R_mono hR (fun k h => .inl h)) (Below.refl _ _) (Nat.zero_le _) hl ?_
  intro v1 w1 ho1 hb1 hg hat
  exact h v1 w1 (hk w1 _ _ ho1 (fun k h => h) (Chg.of_grown hg (fun k e => hR.1 k e)))
/-- append(v, ys...), of a kind that leads to no row. -/
theorem Hold.appendRow {enc : α → Value} {h1 : ∀ x, (enc x).oneCell' = true} (i : Nat) (hS : Hold w0 B W L) {e : Nat} {v : Value} {xs ys : List α} (hi : L[i]? = some (.row (Kd.scalar enc h1) e v xs)) (hgd : o.guard = none) (s x : Operand) (t : TypeId) (z : Value) (bytes : Nat)
    (ho : o.op = .call { callee := .builtin .append, args := #[s, x], argTypes := #[t, t] })
    (ht : P.underlying t = some (.slice e)) (hinfo : (P.info? e).map (fun i => (i.zero, i.size, i.bytes)) = some (some z, 1, bytes)) (hz : z.cells.size = 1) (hb0 : 0 < bytes)
    (A : Option Addr) (m c : Nat) (hs : a.eval s = v) (hx : a.eval x = .slice A m c) (hC : (Kd.scalar enc h1).C W A m ys) (hl : (xs.length + m) * bytes ≤ 140737488355328)
    (h : ∀ v1 w1, Hold w0 B w1 (L.set i (.row (Kd.scalar enc h1) e v1 (xs ++ ys))) → wpList P ops Q rest (a.put o.dst v1) w1) : wpList P ops Q (o :: rest) a W := by
  obtain ⟨f, hR, hb, hk⟩ := hS.focus i hi
  refine Kd.R_append_rows (Kd.scalar enc h1) (w0 := W) 0 hgd s x t e z bytes ho ht hinfo hz (show 0 < 1 from Nat.one_pos) hb0 v xs ys A m c (fun k => f k ∨ W.heap.size ≤ k) (fun _ => False) hs hx (Kd.R_mono hR (fun k h => .inl h)) hC (fun _ _ h => h) (fun _ h => h.elim) (fun k h => .inr h) (Below.refl _ _) (Nat.zero_le _) hl ?_
  intro v1 w1 ho1 hb1 hg hat
  exact h v1 w1 (hk w1 _ _ ho1 (fun k h => h) (Chg.of_grown hg (fun k e => hR.1 k e)))
/-- The same for elements of several cells. -/
theorem Hold.appendRowG (d : Kd α) (i : Nat) (hS : Hold w0 B W L) {e : Nat} {v : Value} {xs ys : List α} (hi : L[i]? = some (.row d e v xs)) (hgd : o.guard = none) (s x : Operand) (t : TypeId) (z : Value) (bytes : Nat)
    (ho : o.op = .call { callee := .builtin .append, args := #[s, x], argTypes := #[t, t] })
    (ht : P.underlying t = some (.slice e)) (hinfo : (P.info? e).map (fun i => (i.zero, i.size, i.bytes)) = some (some z, d.sz, bytes)) (hz : z.cells.size = d.sz) (hs0 : 0 < d.sz) (hb0 : 0 < bytes)
    (A : Option Addr) (m c : Nat) (hs : a.eval s = v) (hx : a.eval x = .slice A m c) (hC : d.C W A m ys) (hKM : ∀ x cs, d.K W x cs → d.M W 0 (fun _ => False) x cs) (hl : (xs.length + m) * bytes ≤ 140737488355328)
    (h : ∀ v1 w1, Hold w0 B w1 (L.set i (.row d e v1 (xs ++ ys))) → wpList P ops Q rest (a.put o.dst v1) w1) : wpList P ops Q (o :: rest) a W := by
  obtain ⟨f, hR, hb, hk⟩ := hS.focus i hi
  refine Kd.R_append_rows d (w0 := W) 0 hgd s x t e z bytes ho ht hinfo hz hs0 hb0 v xs ys A m c (fun k => f k ∨ W.heap.size ≤ k) (fun _ => False) hs hx (Kd.R_mono hR (fun k h => .inl h)) hC hKM (fun _ h => h.elim) (fun k h => .inr h) (Below.refl _ _) (Nat.zero_le _) hl ?_
  intro v1 w1 ho1 hb1 hg hat
  exact h v1 w1 (hk w1 _ _ ho1 (fun k h => h) (Chg.of_grown hg (fun k e => hR.1 k e)))
/-- copy(dst, src): dst a part of a row of one's own, or empty. -/
theorem Hold.copy {enc : α → Value} {h1 : ∀ x, (enc x).oneCell' = true} (i : Nat) (hS : Hold w0 B W L) {e : Nat} {v : Value} {xs ys : List α} (hi : L[i]? = some (.row (Kd.scalar enc h1) e v xs)) (hgd : o.guard = none) (d s : Operand) (dT sT : TypeId)
    (ho : o.op = .call { callee := .builtin .copy, args := #[d, s], argTypes := #[dT, sT] }) (hu : P.underlying dT = some (.slice e)) (hsz : (P.info? e).map (·.size) = some 1)
    (off : Nat) (D A : Option Addr) (dLen dCap m c : Nat) (hd : a.eval d = .slice D dLen dCap) (hs : a.eval s = .slice A m c) (hC : (Kd.scalar enc h1).C W A m ys)
    (hD : 0 < dLen → ∃ g n cap, v = .slice (some ⟨g, 0, none⟩) n cap ∧ D = some ⟨g, off, none⟩) (hfit : off + dLen ≤ xs.length) (k : Nat) (hk : k = min m dLen)
    (h : ∀ w1, Hold w0 B w1 (L.set i (.row (Kd.scalar enc h1) e v (xs.take off ++ ys.take k ++ xs.drop (off + k)))) → wpList P ops Q rest (a.put o.dst (goInt k)) w1) : wpList P ops Q (o :: rest) a W := by
  have hml := hC.1
  refine wpList_plain hgd fun K hK => ?_
  unfold Oper.wp execOp
  simp only [ho, resolve, invoke, builtin, Sem.run_bind, Sem.run_pure, Result.andThen_ok, List.map_toArray, List.map_cons, List.map_nil, hd, hs]
  by_cases h0 : k = 0
  · subst h0
    rw [run_copy_none W dT sT o.type e D A dLen dCap m c hu hsz (by show min m dLen = 0; omega)]
    have hh := h W (by
      have e2 : xs.take off ++ ys.take 0 ++ xs.drop (off + 0) = xs := by simp
      rw [e2]
      have e3 : L.set i (.row (Kd.scalar enc h1) e v xs) = L := by
        apply List.ext_getElem?
        intro j
        rw [List.getElem?_set]
        split
        · rename_i ej; subst ej; rw [hi]; simp [(List.getElem?_eq_some_iff.1 hi).1]
        · rfl
      rw [e3]; exact hS)
    exact hK _ _ hh
  · obtain ⟨g, n, cap, rfl, rfl⟩ := hD (by omega)
    obtain ⟨cs, hsz', hnc, hcm, ht, hn, hB⟩ := hS.rowOpen i hi
    have hm0 : 0 < m := by omega
    obtain ⟨ad, rfl, hcell⟩ := hC.2.2 hm0
    have hg := hB.blk i (list_set_at hi)
    have hlen : (ys.take k |>.map enc).length = Nat.min m dLen := by simp [List.length_take]; show min k ys.length = min m dLen; omega
    rw [run_copy_row P W dT sT o.type e g off dLen dCap ad m c cs e ((ys.take k).map enc) hu hsz hg hlen (by
      intro j u hu
      rw [List.getElem?_map, List.getElem?_take] at hu
      split at hu
      · cases hy : ys[j]? with
        | none => rw [hy] at hu; simp at hu
        | some y =>
          rw [hy] at hu
          obtain rfl : enc y = u := by simpa using hu
          obtain ⟨c1, _, hc1, hc2⟩ := hcell j y hy
          have hc1' : c1 = [enc y] := hc1
          subst hc1'
          have := hc2 0 _ rfl
          simpa [Kd.scalar] using this
      · simp at hu) (by rw [hlen, hsz']; show off + min m dLen ≤ cap; omega) (by intro u hu; obtain ⟨y, _, rfl⟩ := List.mem_map.1 hu; exact h1 y)]
    have hkl : ((ys.take k).map enc).length = k := by rw [hlen]; exact hk.symm
    rw [hkl]
    have hR := hB.setRow (cs' := (cs.toList.take off ++ (ys.take k).map enc ++ cs.toList.drop (off + k)).toArray) i (list_set_at hi)
    rw [list_set_set] at hR
    have hR2 := hR.blkRow (enc := enc) (h1 := h1) (n := n) (cap := cap) (xs := xs.take off ++ ys.take k ++ xs.drop (off + k)) i (list_set_at hi) (by simp; omega) hnc hcm (by
      have e4 : xs.map enc = cs.toList.take n := ht.symm
      simp only [List.map_append, List.map_take, List.map_drop, e4]
      exact splice_take cs.toList _ off k n (by rw [← List.map_take]; exact hkl) (by omega) (by simp; omega)) (by simp; omega)
    rw [list_set_set] at hR2
    exact hK _ _ (h _ hR2)
/-- make([]T, n), of a kind that leads to no row. -/
theorem Hold.make {enc : α → Value} {h1 : ∀ x, (enc x).oneCell' = true} (hS : Hold w0 B W L) (e : Nat) (hgd : o.guard = none) {N : Tmp} (hd : o.dst = some N) (t : TypeId) (x y : Operand) (ho : o.op = .makeSlice t x y) (n : Int) (hx : a.eval x = .int .i64 n) (hy : a.eval y = .int .i64 n)
    (ht : P.underlying t = some (.slice e)) (z0 : α) (bytes : Nat) (hinfo : (P.info? e).map (fun i => (i.zero, i.size, i.bytes)) = some (some (enc z0), 1, bytes)) (hz : (enc z0).cells = #[enc z0]) (hb0 : 0 < bytes)
    (h0 : 0 ≤ n) (hl : n.toNat * bytes ≤ 281474976710656)
    (h : ∀ v1 w1, Hold w0 B w1 (.row (Kd.scalar enc h1) e v1 (List.replicate n.toNat z0) :: L) → wpList P ops Q rest (a.put o.dst v1) w1) : wpList P ops Q (o :: rest) a W := by
  refine Kd.R_make (Kd.scalar enc h1) (w0 := W) W.heap.size e hgd hd t x y ho n hx hy ht (enc z0) bytes hinfo (by rw [hz]; rfl) (show 0 < 1 from Nat.one_pos) hb0 z0 (ok := fun _ => True) (okp := fun _ => False) (by show (enc z0).cells.toList = [enc z0]; rw [hz]) (fun _ h => h.elim) trivial h0 hl (Below.refl _ _) (Nat.le_refl _) ?_
  intro v1 w1 hR hb hg hat
  exact h v1 w1 (hS.new hR hb)
/-- A literal of a kind that leads to no row. -/
theorem Hold.lit (d : Kd α) (hS : Hold w0 B W L) (e : Nat) (hgd : o.guard = none) {N : Tmp} (hd : o.dst = some N) {xs : List α} {inner : List Value}
    (hrun : (execOp a.eval o).run P W = .ok (.value (.slice (some ⟨W.heap.size, 0, none⟩) xs.length xs.length)) (W.alloc (.cells inner.toArray e)))
    (hrep : Reps (d.M W W.heap.size (fun _ => False)) d.sz xs inner) (hm : xs.length ≤ 9223372036854775807)
    (h : ∀ v1 w1, Hold w0 B w1 (.row d e v1 xs :: L) → wpList P ops Q rest (a.put o.dst v1) w1) : wpList P ops Q (o :: rest) a W := by
  refine Kd.R_lit d (w0 := W) W.heap.size e hgd hd (ok := fun _ => True) (okp := fun _ => False) hrun hrep (fun _ h => h.elim) trivial (Below.refl _ _) (Nat.le_refl _) hm ?_
  intro v1 w1 hR hb hg hat
  exact h v1 w1 (hS.new hR hb)
end
end Go.Proofs.YtpcbmjphffpplaaGreatDoor
namespace Go.Proofs.YtpcbmjphffpplaaGreatDoor
open Go.RowKit Go.Proofs.YtpcbmjphffpplaaGreatDoorW.PrintWords Go.ChangeShapes Go.WideShapes Go.Deep
set_option linter.unusedVariables false
set_option linter.unusedSimpArgs false

/-- Whatever is read at type t is a value of this kind. -/
structure Opens (P : Program) (t : TypeId) {α : Type} (d : Kd α) (ok : α → Prop) : Prop where
  out : ∀ {H : Type} (enc : TypeId × Value → H) (w : World) (base : Nat) (spare : Nat → Bool) (held : Bool) (fuel : Nat) (cs : List Value) (x : DataW H × List MemPlace), DataW.trod enc P w base spare held fuel t cs = some x → ∃ a, d.K w a cs ∧ ok a
def WfI (k : IntKind) (n : Int) : Prop := (Lit.int k n).wf = true
def Both {α β : Type} (p : α → Prop) (q : β → Prop) (x : α × β) : Prop := p x.1 ∧ q x.2
def AnyOk {α : Type} (_ : α) : Prop := True
def AllOk {α : Type} (p : α → Prop) (xs : List α) : Prop := ∀ x ∈ xs, p x
def StrOk (s : ByteArray) : Prop := s.size ≤ maxLen
section
variable {P : Program} {t : TypeId}
theorem Opens.int {k : IntKind} (ht : P.underlying t = some (.int k)) : Opens P t (Kd.int k) (WfI k) := by
  constructor
  intro H enc w base spare held fuel cs x h
  obtain ⟨n, rfl, _, hw⟩ := DataW.trod_int ht h
  exact ⟨n, rfl, hw⟩
theorem Opens.bool (ht : P.underlying t = some .bool) : Opens P t Kd.bool AnyOk := by
  constructor
  intro H enc w base spare held fuel cs x h
  obtain ⟨b, rfl, _⟩ := DataW.trod_bool ht h
  exact ⟨b, rfl, trivial⟩
theorem Opens.string (ht : P.underlying t = some .string) : Opens P t Kd.string StrOk := by
  constructor
  intro H enc w base spare held fuel cs x h
  obtain ⟨s, rfl, _, hs⟩ := DataW.trod_string ht h
  exact ⟨s, rfl, hs⟩
theorem list_of {α : Type} {Q : Nat → α → Prop} : ∀ n : Nat, (∀ i, i < n → ∃ a, Q i a) → ∃ xs : List α, xs.length = n ∧ ∀ i a, xs[i]? = some a → Q i a
  | 0, _ => ⟨[], rfl, fun i a h => by simp at h⟩
  | n + 1, h => by
    obtain ⟨xs, hl, hx⟩ := list_of n (fun i hi => h i (by omega))
    obtain ⟨a, ha⟩ := h n (by omega)
    refine ⟨xs ++ [a], by simp [hl], fun i b hb => ?_⟩
    rcases Nat.lt_or_ge i n with hi | hi
    · rw [List.getElem?_append_left (by omega)] at hb
      exact hx i b hb
    · rw [List.getElem?_append_right (by omega)] at hb
      have : i = n := by
        have := (List.getElem?_eq_some_iff.1 hb).1
        simp at this
        omega
      subst this
      rw [hl, Nat.sub_self] at hb
      have : a = b := by simpa using hb
      exact this ▸ ha
theorem Opens.sl {e : TypeId} {α : Type} {d : Kd α} {ok : α → Prop} (ht : P.underlying t = some (.slice e)) (hc : P.cellsOf e = d.sz) (h : Opens P e d ok) : Opens P t (Kd.slice e d) (AllOk ok) := by
  constructor
  intro H enc w base spare held fuel cs x ht'
  rcases open_slice ht ht' with ⟨rfl, _⟩ | ⟨a, len, cap, m, n, D, Pl, rfl, hb, hl, hm, hmm, _, hi⟩
  · exact ⟨[], ⟨none, 0, rfl, Nat.le_refl _, ⟨rfl, Nat.zero_le _, fun hn => absurd hn (Nat.lt_irrefl _)⟩⟩, fun x hx => by simp at hx⟩
  · obtain ⟨xs, hxl, hx⟩ := list_of (Q := fun i a' => ok a' ∧ ∃ c, c.length = d.sz ∧ d.K w a' c ∧ ∀ j u, c[j]? = some u → w.cell? (a.add (i * d.sz + j)) = some u) len (fun i hil => by
      obtain ⟨cs', hcs, htr⟩ := hi i (by rw [hmm]; split <;> omega)
      obtain ⟨a', hK, hok⟩ := h.out enc w base spare held n cs' _ htr
      rw [hc] at hcs
      obtain ⟨_, hlen, hcell⟩ := World.cells?_some hcs
      refine ⟨a', hok, cs', hlen, hK, fun j u hu => ?_⟩
      have hj : j < cs'.length := (List.getElem?_eq_some_iff.1 hu).1
      have := hcell j (by omega)
      rw [Go.Deep.add_add] at this
      rw [this, hu])
    refine ⟨xs, ⟨some a, cap, by rw [hxl], by omega, ⟨rfl, by rw [hxl]; simp only [maxLen] at hm; omega, fun hn => ⟨a, rfl, fun j p hj => ?_⟩⟩⟩, fun y hy => ?_⟩
    · obtain ⟨_, c, h1, h2, h3⟩ := hx j p hj
      exact ⟨c, h1, h2, h3⟩
    · obtain ⟨j, hj⟩ := List.getElem?_of_mem hy
      exact (hx j y hj).1
/-- A struct's cells from field i on. -/
structure OpensAt (P : Program) (fs : Array Field) (i off : Nat) {α : Type} (d : Kd α) (ok : α → Prop) : Prop where
  out : ∀ {H : Type} (enc : TypeId × Value → H) (w : World) (base : Nat) (spare : Nat → Bool) (held : Bool) (n : Nat) (cs : List Value) (xs : List (DataW H × List MemPlace)), xs.length = fs.size →
    (∀ (j : Nat) (f : Field), fs[j]? = some f → DataW.trod enc P w base spare held n f.type ((cs.drop f.offset).take (P.cellsOf f.type)) = xs[j]?) → ∃ a, d.K w a ((cs.drop off).take d.sz) ∧ ok a
theorem OpensAt.last {fs : Array Field} {i off : Nat} {f : Field} {α : Type} {d : Kd α} {ok : α → Prop} (hf : fs[i]? = some f) (ho : f.offset = off) (hc : P.cellsOf f.type = d.sz) (h : Opens P f.type d ok) : OpensAt P fs i off d ok := by
  constructor
  intro H enc w base spare held n cs xs hl hx
  have h1 := hx i f hf
  have hi : i < xs.length := by rw [hl]; exact (Array.getElem?_eq_some_iff.1 hf).1
  rw [ho, hc, List.getElem?_eq_getElem hi] at h1
  exact h.out enc w base spare held n _ _ h1
theorem OpensAt.cons {fs : Array Field} {i off : Nat} {f : Field} {α β : Type} {d : Kd α} {d' : Kd β} {ok : α → Prop} {ok' : β → Prop} (hf : fs[i]? = some f) (ho : f.offset = off) (hc : P.cellsOf f.type = d.sz) (h : Opens P f.type d ok) (hr : OpensAt P fs (i + 1) (off + d.sz) d' ok') :
    OpensAt P fs i off (Kd.pair d d') (Both ok ok') := by
  constructor
  intro H enc w base spare held n cs xs hl hx
  obtain ⟨a, ha, hok⟩ := (OpensAt.last hf ho hc h).out enc w base spare held n cs xs hl hx
  obtain ⟨b, hb, hok'⟩ := hr.out enc w base spare held n cs xs hl hx
  refine ⟨(a, b), ⟨_, _, ?_, ha, hb⟩, hok, hok'⟩
  show (cs.drop off).take (d.sz + d'.sz) = _
  rw [List.take_add, List.drop_drop]
theorem Opens.struct {fs : Array Field} {α : Type} {d : Kd α} {ok : α → Prop} (ht : P.underlying t = some (.struct fs)) (hC : P.cellsOf t = d.sz) (h : OpensAt P fs 0 0 d ok) : Opens P t d ok := by
  constructor
  intro H enc w base spare held fuel cs x hx
  obtain ⟨xs, n, _, _, hl, hxl, hf⟩ := DataW.trod_struct ht hx
  obtain ⟨a, ha, hok⟩ := h.out enc w base spare held n cs xs hxl hf
  rw [List.drop_zero, ← hC, ← hl, List.take_length] at ha
  exact ⟨a, ha, hok⟩
end
/-- A parameter that is a slice: its value, what it reads, its size. -/
theorem open_sl {H : Type} {enc : TypeId × Value → H} {P : Program} {W : World} {base : Nat} {spare : Nat → Bool} {held : Bool} {t e : TypeId} {v : Value} {dd : DataW H} {ps : List MemPlace} {ts : List TypeId} {ds : List (DataW H)} {j : Nat} {r : Reach} {b0 : Nat}
    {α : Type} {d : Kd α} {ok : α → Prop} (hu : P.underlying t = some (.slice e)) (hc : P.cellsOf e = d.sz) {B : Nat} (hB : P.bytesOf e = B) (hO : Opens P e d ok) (hv : Value.okWide P W r b0 t v)
    (hsz : (DataW.weightsEach P ts ds).all (· ≤ reachBytes) = true) (ht : ts[j]? = some t) (hd : ds[j]? = some dd)
    (h : DataW.Trod enc P W base spare held t v dd ps) : ∃ (A : Option Addr) (n c : Nat) (xs : List α), v = .slice A n c ∧ d.C W A n xs ∧ AllOk ok xs ∧ (xs.length * B ≤ 140737488351232 ∧ n ≤ c) := by
  obtain ⟨A, n, c, rfl⟩ := okWide_slice hu hv
  obtain ⟨fuel, hf⟩ := h
  obtain ⟨xs, ⟨A', c', he, hle, hC⟩, hok⟩ := (Opens.sl hu hc hO).out enc W base spare held fuel _ _ hf
  simp only [Value.cells] at he
  simp at he
  obtain ⟨rfl, rfl, rfl⟩ := he
  refine ⟨A, _, c, xs, rfl, hC, hok, ?_, hle⟩
  rcases open_slice hu hf with ⟨hcs, _⟩ | ⟨x, l, c1, m, n, D, Pl, hcs, _, hl, hm, hmm, hx, _⟩
  · simp [Value.cells] at hcs
    obtain ⟨_, rfl, _⟩ := hcs
    simp
  · simp [Value.cells] at hcs
    obtain ⟨_, rfl, _⟩ := hcs
    obtain ⟨hx, _⟩ := Prod.mk.inj hx
    subst hx
    have z := sized_slice hsz ht hd hu
    rw [hB] at z
    simp only [List.length_map, List.length_range] at z
    exact Nat.le_trans (Nat.mul_le_mul_right _ (Nat.le_add_right _ _)) z
end Go.Proofs.YtpcbmjphffpplaaGreatDoor
namespace Go.Proofs.YtpcbmjphffpplaaGreatDoor
open Go.RowKit Go.Proofs.YtpcbmjphffpplaaGreatDoorW.PrintWords Go.ChangeShapes Go.WideShapes
set_option linter.unusedVariables false
set_option linter.unusedSimpArgs false

/-- A byte's cell. -/
def bV (b : UInt8) : Value := .int .u8 (b.toNat : Int)
abbrev kB : Kd UInt8 := Kd.scalar bV (fun _ => rfl)
/-- A text of bytes. -/
def bStr (xs : List UInt8) : ByteArray := ⟨xs.toArray⟩
theorem bStr_size (xs : List UInt8) : (bStr xs).size = xs.length := rfl
theorem bStr_inj {xs ys : List UInt8} : bStr xs = bStr ys ↔ xs = ys := by
  constructor
  · intro h
    have := congrArg (fun s : ByteArray => s.data.toList) h
    simpa [bStr] using this
  · rintro rfl; rfl
theorem kB_ints {w : World} {A : Option Addr} {n : Nat} {xs : List UInt8} (h : kB.C w A n xs) : (Kd.int .u8).C w A n (xs.map fun b => (b.toNat : Int)) := by
  refine ⟨by rw [List.length_map]; exact h.1, h.2.1, fun hn => ?_⟩
  obtain ⟨ad, e, hc⟩ := h.2.2 hn
  refine ⟨ad, e, fun j p hj => ?_⟩
  rw [List.getElem?_map] at hj
  cases hx : xs[j]? with
  | none => rw [hx] at hj; simp at hj
  | some b =>
    rw [hx] at hj
    obtain rfl : (b.toNat : Int) = p := by simpa using hj
    exact hc j b hx
theorem strOfNums_bytes (xs : List UInt8) : strOfNums (xs.map fun b => (b.toNat : Int)) = bStr xs := by
  unfold strOfNums bStr
  congr 1
  congr 1
  rw [List.map_map]
  conv => rhs; rw [← List.map_id xs]
  apply List.map_congr_left
  intro b _
  simp
/-- 'string(b)', laid ahead of a walk. -/
theorem kB_string {P : Program} {w : World} {src dst e : TypeId} {A : Option Addr} {n : Nat} (c : Nat) {xs : List UInt8} (hs : P.underlying src = some (.slice e)) (he : P.underlying e = some (.int .u8)) (hd : P.underlying dst = some .string) (h : kB.C w A n xs) :
    (convert src dst (.slice A n c)).run P w = .ok (.string (bStr xs)) w := by
  have := Kd.C_string (P := P) (c := c) hs he hd (kB_ints h)
  rwa [strOfNums_bytes] at this
theorem bStr_beq (xs ys : List UInt8) : ((bStr xs).toList == (bStr ys).toList) = decide (xs = ys) := by
  have h1 : ∀ l : List UInt8, (bStr l).toList = l := fun l => ByteArray.toList_mk l
  rw [h1, h1]
  by_cases h : xs = ys
  · rw [decide_eq_true h, beq_iff_eq]; exact h
  · rw [decide_eq_false h, beq_eq_false_iff_ne]; exact h
theorem Opens.byte {P : Program} {t : TypeId} (ht : P.underlying t = some (.int .u8)) : Opens P t kB AnyOk := by
  constructor
  intro H enc w base spare held fuel cs x h
  obtain ⟨n, rfl, _, hw⟩ := DataW.trod_int ht h
  have hr : 0 ≤ n ∧ n < 256 := by
    simp [Lit.wf, IntKind.min, IntKind.max, IntKind.bits, IntKind.signed] at hw
    omega
  refine ⟨UInt8.ofNat n.toNat, ?_, trivial⟩
  show _ = [bV _]
  unfold bV
  rw [UInt8.toNat_ofNat']
  congr 2
  have : n.toNat % 256 = n.toNat := Nat.mod_eq_of_lt (by omega)
  omega
theorem infoB_len {n : Nat} : n * 1 = n := Nat.mul_one n
end Go.Proofs.YtpcbmjphffpplaaGreatDoor
namespace Go.Proofs.YtpcbmjphffpplaaGreatDoor
open Go.RowKit Go.Proofs.YtpcbmjphffpplaaGreatDoorW.PrintWords Go.Lib
set_option linter.unusedVariables false
set_option linter.unusedSimpArgs false
set_option maxRecDepth 100000
/-- An element, as it is. -/
def rH (v : Value) : Option (DataW Value × List MemPlace) := some (.held v, [])
def kS (s : ByteArray) : Lit := .string s.data.toList
theorem kS_inj {s t : ByteArray} (h : kS s = kS t) : s = t := by
  unfold kS at h
  injection h with h
  cases s
  cases t
  simp_all
theorem str_keyed : Maps.Keyed Tryz.prog 9 := Maps.string_keyed Tryz.underlying9
def Asrt.hm (g n : Nat) (D : DataW Value) : Asrt where
  p := fun w f => f g ∧ w.ownsMap Tryz.prog 9 rH g n D
  loc := fun {w w1 f} h hm => ⟨h.1, by
    have hlt := h.2.lt
    obtain ⟨es, clock, hb, r⟩ := h.2
    exact ⟨es, clock, (hm g h.1 hlt).trans hb, r⟩⟩
  mono := fun hm h => ⟨hm _ h.1, h.2⟩
  bnd := fun h => ⟨⟨h.1, h.2.lt⟩, h.2⟩
section
variable {w0 w W : World} {B : Nat} {L : List Asrt} {ops : Array Oper} {rest : List Oper} {o : Oper} {a : Act} {Q : Exit → Act → World → Prop}
theorem Hold.mapMade (hS : Hold w0 B w L) : Hold w0 B (w.alloc (.map #[] 0)) (.hm w.heap.size 0 (.map []) :: L) :=
  hS.push (f' := fun k => k = w.heap.size) ⟨rfl, World.ownsMap_made w _ _ _⟩ (fun k hk => by omega) ⟨rfl, rfl, rfl, by simp, fun k hk _ => Below.heap_alloc _ _ _ hk⟩
theorem Hold.mapGet (hS : Hold w0 B w L) (i : Nat) {g n : Nat} {D : DataW Value} (hi : L[i]? = some (.hm g n D)) : w.ownsMap Tryz.prog 9 rH g n D := by
  obtain ⟨f, hp, _⟩ := hS.get i hi
  exact hp.2
/-- m[s] = v. -/
theorem Hold.mapPut (i : Nat) (hS : Hold w0 B W L) {g n : Nat} {D : DataW Value} (hi : L[i]? = some (.hm g n D)) (hgd : o.guard = none) (m x v : Operand) (t e : TypeId) (hop : o.op = .mapUpdate t m x v) (ht : Tryz.prog.underlying t = some (.map 9 e))
    (s : ByteArray) (val : Value) (hm : a.eval m = .map (some g)) (hx : a.eval x = .string s) (hv : a.eval v = val) (hn : n < maxLen) (hs : s.size ≤ maxLen)
    (h : ∀ w1, Hold w0 B w1 (L.set i (.hm g (n + 1) (D.put (kS s) (.held val)))) → wpList Tryz.prog ops Q rest (a.put o.dst undef) w1) : wpList Tryz.prog ops Q (o :: rest) a W := by
  refine wpList_mapUpdate_own W hgd m x v t hop 9 e str_keyed ht rH g n D hm (hS.mapGet i hi) hn (.string s) val (kS s) hx hv (WideMaps.keyOf_string_mk Tryz.underlying9 hs) (.held val) [] rfl ?_
  intro w1 h1 hg
  exact h w1 (hS.upd i hi (fun f hp => ⟨f, ⟨hp.1, h1⟩, fun k h => .inl h, Chg.of_grown hg (fun k e => by injection e with e; rw [← e]; exact hp.1)⟩))
/-- v, ok := m[s]. -/
theorem Hold.mapLook (i : Nat) (hS : Hold w0 B W L) {g n : Nat} {D : DataW Value} (hi : L[i]? = some (.hm g n D)) (hgd : o.guard = none) (m x : Operand) (t e : TypeId) (hop : o.op = .lookup t m x true) (ht : Tryz.prog.underlying t = some (.map 9 e))
    (z : Value) (hz : (zeroValue e).run Tryz.prog W = .ok z W) (s : ByteArray) (hm : a.eval m = .map (some g)) (hx : a.eval x = .string s) (hs : s.size ≤ maxLen) (v : Value) (b : Bool) (hat : D.atKey (kS s) (.held z) = .held v) (hb : Maps.has D (kS s) = b)
    (h : wpList Tryz.prog ops Q rest (a.put o.dst (.tuple #[v, .bool b])) W) : wpList Tryz.prog ops Q (o :: rest) a W := by
  refine wpList_lookup_own_ok W hgd m x t hop 9 e str_keyed ht rH hz (.held z) [] rfl g n D hm (hS.mapGet i hi) (.string s) (kS s) hx (WideMaps.keyOf_string_mk Tryz.underlying9 hs) ?_
  intro v' ps hv'
  rw [hat] at hv'
  have hv2 : v' = v := by
    unfold rH at hv'
    injection hv' with hv'
    injection hv' with h1 _
    injection h1
  rw [hv2, hb]
  exact h
end
/-! ### what a map of a table holds -/
def putAll (D : DataW Value) : List (ByteArray × Value) → DataW Value
  | [] => D
  | e :: r => putAll (D.put (kS e.1) (.held e.2)) r
theorem putAll_snoc (e : ByteArray × Value) : ∀ (l : List (ByteArray × Value)) (D : DataW Value), putAll D (l ++ [e]) = (putAll D l).put (kS e.1) (.held e.2)
  | [], D => rfl
  | x :: r, D => putAll_snoc e r _
theorem putAll_append : ∀ (l r : List (ByteArray × Value)) (D : DataW Value), putAll D (l ++ r) = putAll (putAll D l) r
  | [], r, D => rfl
  | x :: l, r, D => putAll_append l r _
theorem putAll_miss (s : ByteArray) (z : DataW Value) : ∀ (l : List (ByteArray × Value)) (D : DataW Value), (∀ e ∈ l, e.1 ≠ s) → (putAll D l).atKey (kS s) z = D.atKey (kS s) z ∧ Maps.has (putAll D l) (kS s) = Maps.has D (kS s)
  | [], D, _ => ⟨rfl, rfl⟩
  | e :: r, D, h => by
    have hne : kS s ≠ kS e.1 := fun he => h e (by simp) (kS_inj he).symm
    have ih := putAll_miss s z r (D.put (kS e.1) (.held e.2)) (fun x hx => h x (by simp [hx]))
    rw [putAll, ih.1, ih.2, Maps.atKey_put_other hne, Maps.has_put_other hne]
    exact ⟨rfl, rfl⟩
theorem putAll_hit (z : DataW Value) : ∀ (l : List (ByteArray × Value)) (D : DataW Value), Maps.IsMap D → (l.map (·.1)).Nodup → ∀ e ∈ l, (putAll D l).atKey (kS e.1) z = .held e.2 ∧ Maps.has (putAll D l) (kS e.1) = true
  | [], D, _, _, e, he => by simp at he
  | x :: r, D, hD, hn, e, he => by
    rw [List.map_cons, List.nodup_cons] at hn
    rw [putAll]
    rcases List.mem_cons.1 he with rfl | he
    · have hm := putAll_miss e.1 z r (D.put (kS e.1) (.held e.2)) (fun y hy hye => hn.1 (by rw [← hye]; exact List.mem_map_of_mem hy))
      rw [hm.1, hm.2, Maps.atKey_put_same hD (show WideAt.IsKeyLit (kS e.1) from trivial), Maps.has_put_same hD (show WideAt.IsKeyLit (kS e.1) from trivial)]
      exact ⟨rfl, rfl⟩
    · exact putAll_hit z r _ (hD.put _ _) hn.2 e he
/-! ### ranged over -/
/-- A map over which a loop ranges: left: what is still to come. -/
def Asrt.rng (b r n : Nat) (D : DataW Value) (left : Lit → Bool) (cnt : Nat) : Asrt where
  p := fun w f => f b ∧ f r ∧ w.ranges Tryz.prog 9 rH b r n D left cnt
  loc := fun {w w1 f} h hm => ⟨h.1, h.2.1, by
    have hlt := h.2.2.owns.lt
    have hlr := h.2.2.lt
    obtain ⟨es, clock, since, seen, c0, hb, F, hs, hD, hr, rest⟩ := h.2.2
    exact ⟨es, clock, since, seen, c0, (hm b h.1 hlt).trans hb, F, hs, hD, (hm r h.2.1 hlr).trans hr, rest⟩⟩
  mono := fun hm h => ⟨hm _ h.1, hm _ h.2.1, h.2.2⟩
  bnd := fun h => ⟨⟨h.1, h.2.2.owns.lt⟩, ⟨h.2.1, h.2.2.lt⟩, h.2.2⟩
section
variable {w0 w W : World} {B : Nat} {L : List Asrt} {ops : Array Oper} {rest : List Oper} {o : Oper} {a : Act} {Q : Exit → Act → World → Prop}
theorem Hold.rngLeft (hS : Hold w0 B w L) (i : Nat) {b r n cnt : Nat} {D : DataW Value} {left : Lit → Bool} (hi : L[i]? = some (.rng b r n D left cnt)) : w.rangeLeft b r = cnt := by
  obtain ⟨f, hp, _⟩ := hS.get i hi
  exact hp.2.2.left_eq
theorem Hold.rngDone (hS : Hold w0 B w L) (i : Nat) {b r n cnt : Nat} {D : DataW Value} {left : Lit → Bool} (hi : L[i]? = some (.rng b r n D left cnt)) : Hold w0 B w (L.set i (.hm b n D)) :=
  hS.upd i hi (fun f hp => ⟨f, ⟨hp.1, hp.2.2.owns⟩, fun k h => .inl h, ⟨rfl, rfl, rfl, Nat.le_refl _, fun _ _ _ => rfl⟩⟩)
/-- len(m). -/
theorem Hold.mapLen (i : Nat) (hS : Hold w0 B W L) {g n : Nat} {D : DataW Value} (hi : L[i]? = some (.hm g n D)) (hgd : o.guard = none) (m : Operand) (t e : TypeId) (hop : o.op = Op.call { callee := Callee.builtin Builtin.len, args := #[m], argTypes := #[t] })
    (ht : Tryz.prog.underlying t = some (.map 9 e)) (hm : a.eval m = .map (some g)) (k : Nat) (hk : Maps.size D = k) (h : wpList Tryz.prog ops Q rest (a.put o.dst (.int .i64 (k : Int))) W) : wpList Tryz.prog ops Q (o :: rest) a W := by
  refine wpList_len_own W hgd m t hop 9 e ht rH g n D hm (hS.mapGet i hi) ?_
  rw [hk]
  exact h
/-- range m. -/
theorem Hold.mapRange (i : Nat) (hS : Hold w0 B W L) {g n : Nat} {D : DataW Value} (hi : L[i]? = some (.hm g n D)) (hgd : o.guard = none) (m : Operand) (t e : TypeId) (hop : o.op = Op.range t m) (ht : Tryz.prog.underlying t = some (.map 9 e))
    (hm : a.eval m = .map (some g)) (h : ∀ w1, Hold w0 B w1 (L.set i (.rng g W.heap.size n D (Maps.has D) (Maps.size D))) → wpList Tryz.prog ops Q rest (a.put o.dst (.pointer (some ⟨W.heap.size, 0, none⟩))) w1) : wpList Tryz.prog ops Q (o :: rest) a W := by
  obtain ⟨f, hp, _, hk⟩ := hS.focus i hi
  refine wpList_range_own W hgd m t hop 9 e str_keyed ht rH g n D hm hp.2 ?_
  intro w1 hr hg _
  exact h w1 (hk w1 (.rng g W.heap.size n D (Maps.has D) (Maps.size D)) (fun k => f k ∨ k = W.heap.size) ⟨.inl hp.1, .inr rfl, hr⟩ (fun k hh => hh.elim .inl (fun e => .inr (by omega))) (Chg.of_grown hg (fun k e => by cases e)))
/-- The step. -/
theorem Hold.mapNext (i : Nat) (hS : Hold w0 B W L) {b r n cnt : Nat} {D : DataW Value} {left : Lit → Bool} (hi : L[i]? = some (.rng b r n D left cnt)) (hgd : o.guard = none) (it : Operand) (hop : o.op = Op.next it false) (hit : a.eval it = .pointer (some ⟨r, 0, none⟩))
    (hDone : cnt = 0 → (∀ kl, left kl = false) → wpList Tryz.prog ops Q rest (a.put o.dst (.tuple #[.bool false])) W)
    (hMore : ∀ (s : ByteArray) (v : Value) (w1 : World) (cnt1 : Nat), s.size ≤ maxLen → left (kS s) = true → (∀ zd, D.atKey (kS s) zd = .held v) → Hold w0 B w1 (L.set i (.rng b r n D (fun z => left z && !z.sameKey (kS s)) cnt1)) → cnt1 < cnt →
      (Instr.entry (.pointer (some ⟨r, 0, none⟩))).run Tryz.prog w1 = .ok (.tuple #[.string s, v]) w1 → wpList Tryz.prog ops Q rest (a.put o.dst (.tuple #[.bool true, .string s, v])) w1) : wpList Tryz.prog ops Q (o :: rest) a W := by
  obtain ⟨f, hp, _, hk⟩ := hS.focus i hi
  refine wpList_next_ranges W hgd it hop 9 str_keyed rH (fun s : ByteArray => Value.string s) (fun v : Value => v) (fun key kl hkey => ?_) (fun v y _ => ⟨v, rfl⟩) b r n D left cnt hit hp.2.2 hDone ?_
  · exact Maps.keyOf_string_inv Tryz.underlying9 hkey
  · intro s v kl y w1 cnt1 hkey hlk hv hat hrg hlt hg _ hen
    obtain ⟨x, ex, rfl, hx⟩ := Maps.keyOf_str Tryz.underlying9 hkey
    injection ex with ex
    have e1 : s.data.toList = x := by rw [ex]
    have e2 : (Lit.string x) = kS s := by rw [← e1]; rfl
    rw [e2] at hlk hat hrg
    have e3 : y.1 = .held v := by
      injection hv with hv
      rw [← hv]
    exact hMore s v w1 cnt1 (by show s.data.size ≤ _; rw [← Array.length_toList, e1]; exact hx) hlk (fun zd => (hat zd).trans e3) (hk w1 (.rng b r n D (fun z => left z && !z.sameKey (kS s)) cnt1) f ⟨hp.1, hp.2.1, hrg⟩ (fun k hh => .inl hh) (Chg.of_grown hg (fun k e => by injection e with e; rw [← e]; exact hp.2.1))) hlt hen
end
/-! ### a map of texts to texts -/
def mapOf (l : List (ByteArray × ByteArray)) : DataW Value := putAll (.map []) (l.map fun p => (p.1, Value.string p.2))
theorem mapOf_snoc (l : List (ByteArray × ByteArray)) (p : ByteArray × ByteArray) : mapOf (l ++ [p]) = (mapOf l).put (kS p.1) (.held (.string p.2)) := by
  unfold mapOf
  rw [List.map_append]
  exact putAll_snoc _ _ _
theorem mapOf_no {l : List (ByteArray × ByteArray)} {s : ByteArray} (h : ∀ p ∈ l, p.1 ≠ s) (z : DataW Value) : (mapOf l).atKey (kS s) z = z ∧ Maps.has (mapOf l) (kS s) = false := by
  have := putAll_miss s z (l.map fun p => (p.1, Value.string p.2)) (.map []) (fun e he => by
    obtain ⟨p, hp, rfl⟩ := List.mem_map.1 he
    exact h p hp)
  exact this
theorem mapOf_yes {l : List (ByteArray × ByteArray)} (hn : (l.map (·.1)).Nodup) {p : ByteArray × ByteArray} (hp : p ∈ l) (z : DataW Value) : (mapOf l).atKey (kS p.1) z = .held (.string p.2) ∧ Maps.has (mapOf l) (kS p.1) = true :=
  putAll_hit z (l.map fun q : ByteArray × ByteArray => (q.1, Value.string q.2)) (.map []) Maps.isMap_empty (by rw [List.map_map]; exact hn) (p.1, Value.string p.2) (List.mem_map.2 ⟨p, hp, rfl⟩)
theorem mapOf_at {l : List (ByteArray × ByteArray)} (hn : (l.map (·.1)).Nodup) {s : ByteArray} {v : Value} (hh : Maps.has (mapOf l) (kS s) = true) (hv : ∀ zd, (mapOf l).atKey (kS s) zd = .held v) : ∃ p ∈ l, p.1 = s ∧ v = .string p.2 := by
  by_cases h : ∃ p ∈ l, p.1 = s
  · obtain ⟨p, hp, rfl⟩ := h
    have h1 := (mapOf_yes hn hp (.held v)).1
    rw [hv] at h1
    injection h1 with h1
    exact ⟨p, hp, rfl, h1⟩
  · rw [(mapOf_no (fun p hp e => h ⟨p, hp, e⟩) (.held v)).2] at hh
    cases hh
theorem mapOf_tidy : ∀ (l : List (ByteArray × ByteArray)) (D : DataW Value), Maps.Tidy D → Maps.Tidy (putAll D (l.map fun p => (p.1, Value.string p.2)))
  | [], D, h => h
  | p :: l, D, h => mapOf_tidy l _ (h.put (show WideAt.IsKeyLit (kS p.1) from trivial) _)
theorem mapOf_size {l : List (ByteArray × ByteArray)} {p : ByteArray × ByteArray} (hs : Maps.size (mapOf l) = l.length) (h : ∀ q ∈ l, q.1 ≠ p.1) : Maps.size (mapOf (l ++ [p])) = (l ++ [p]).length := by
  rw [mapOf_snoc, Maps.size_put (show Maps.Tidy (mapOf l) from mapOf_tidy l _ Maps.tidy_empty), (mapOf_no h (.held (.string p.2))).2, hs]
  simp
end Go.Proofs.YtpcbmjphffpplaaGreatDoor
namespace Go.Proofs.YtpcbmjphffpplaaGreatDoor
open Go.RowKit Go.Proofs.YtpcbmjphffpplaaGreatDoorW.PrintWords
set_option linter.unusedVariables false
set_option linter.unusedSimpArgs false
set_option maxRecDepth 100000
/-- A slice of one's own, wherever it begins in its block: its room too. -/
structure SlAt {α : Type} (enc : α → Value) (w : World) (f : Nat → Prop) (v : Value) (xs : List α) : Prop where
  out : (v = .slice none 0 0 ∧ xs = []) ∨ ∃ g off cap, v = .slice (some ⟨g, off, none⟩) xs.length cap ∧ f g ∧ g < w.heap.size ∧ xs.length ≤ cap ∧ cap ≤ maxLen ∧
    (∀ j, j < cap → (w.cell? ⟨g, off + j, none⟩).isSome = true ∧ w.frozen? ⟨g, off + j, none⟩ = false) ∧ ∀ j x, xs[j]? = some x → w.cell? ⟨g, off + j, none⟩ = some (enc x)
theorem cell_heap {w w1 : World} {g : Nat} (h : w1.heap[g]? = w.heap[g]?) (o : Nat) : w1.cell? ⟨g, o, none⟩ = w.cell? ⟨g, o, none⟩ ∧ w1.frozen? ⟨g, o, none⟩ = w.frozen? ⟨g, o, none⟩ := by
  unfold World.cell? World.frozen?
  simp only [h]
  exact ⟨trivial, trivial⟩
def Asrt.sl {α : Type} (enc : α → Value) (v : Value) (xs : List α) : Asrt where
  p := fun w f => SlAt enc w f v xs
  loc := fun {w w1 f} h hm => by
    rcases h.out with h | ⟨g, off, cap, rfl, hf, hlt, h1, h2, h3, h4⟩
    · exact ⟨.inl h⟩
    · have hh := hm g hf hlt
      have hlt1 : g < w1.heap.size := by
        rw [Array.getElem?_eq_getElem hlt] at hh
        exact (Array.getElem?_eq_some_iff.1 hh).1
      exact ⟨.inr ⟨g, off, cap, rfl, hf, hlt1, h1, h2, fun j hj => by rw [(cell_heap hh _).1, (cell_heap hh _).2]; exact h3 j hj, fun j x hx => by rw [(cell_heap hh _).1]; exact h4 j x hx⟩⟩
  mono := fun {w f f'} hm h => by
    rcases h.out with h | ⟨g, off, cap, rfl, hf, r⟩
    · exact ⟨.inl h⟩
    · exact ⟨.inr ⟨g, off, cap, rfl, hm g hf, r⟩⟩
  bnd := fun {w f} h => by
    rcases h.out with h | ⟨g, off, cap, rfl, hf, hlt, r⟩
    · exact ⟨.inl h⟩
    · exact ⟨.inr ⟨g, off, cap, rfl, ⟨hf, hlt⟩, hlt, r⟩⟩
/-- A reading of one-celled elements, out of their cells. -/
theorem C_of_cellsK {α : Type} {enc : α → Value} {h1 : ∀ x, (enc x).oneCell' = true} {w : World} {g off : Nat} {xs : List α} (hm : xs.length ≤ 9223372036854775807) (h : ∀ j x, xs[j]? = some x → w.cell? ⟨g, off + j, none⟩ = some (enc x)) : (Kd.scalar enc h1).C w (some ⟨g, off, none⟩) xs.length xs := by
  refine ⟨rfl, hm, fun _ => ⟨_, rfl, fun j p hj => ⟨[enc p], rfl, rfl, fun i u hu => ?_⟩⟩⟩
  cases i with
  | zero =>
    have hu' : enc p = u := by simpa using hu
    rw [← hu', Addr.add_mid]
    have e : off + (j * (Kd.scalar enc h1).sz + 0) = off + j := by show off + (j * 1 + 0) = off + j; omega
    rw [e]
    exact h j p hj
  | succ i => simp at hu
theorem SlAt.reads {α : Type} {enc : α → Value} {w : World} {f : Nat → Prop} {v : Value} {xs : List α} (h1 : ∀ x, (enc x).oneCell' = true) (h : SlAt enc w f v xs) : ∃ A c, v = .slice A xs.length c ∧ xs.length ≤ c ∧ (Kd.scalar enc h1).C w A xs.length xs := by
  rcases h.out with ⟨rfl, rfl⟩ | ⟨g, off, cap, rfl, hf, hlt, h2, h3, h4, h5⟩
  · exact ⟨none, 0, rfl, Nat.le_refl _, rfl, Nat.zero_le _, fun hn => absurd hn (Nat.lt_irrefl _)⟩
  · exact ⟨_, _, rfl, h2, C_of_cellsK (by simp only [maxLen] at h3; omega) h5⟩
section
variable {α : Type} {enc : α → Value} {w0 w W : World} {B : Nat} {L : List Asrt} {P : Program} {ops : Array Oper} {rest : List Oper} {o : Oper} {a : Act} {Q : Exit → Act → World → Prop}
theorem Hold.slReads (h1 : ∀ x, (enc x).oneCell' = true) (hS : Hold w0 B w L) (i : Nat) {v : Value} {xs : List α} (hi : L[i]? = some (.sl enc v xs)) : ∃ A c, v = .slice A xs.length c ∧ xs.length ≤ c ∧ (Kd.scalar enc h1).C w A xs.length xs := by
  obtain ⟨f, hp, _⟩ := hS.get i hi
  exact SlAt.reads h1 hp
theorem Chg.none_ (w : World) (f : Nat → Prop) : Chg w w f := ⟨rfl, rfl, rfl, Nat.le_refl _, fun _ _ _ => rfl⟩
/-- The same slice without its last ones. -/
theorem Hold.slTake (hS : Hold w0 B w L) (i : Nat) {A : Option Addr} {n c : Nat} {xs : List α} (hi : L[i]? = some (.sl enc (.slice A n c) xs)) (k : Nat) (hk : k ≤ xs.length) (h0 : A ≠ none) : Hold w0 B w (L.set i (.sl enc (.slice A k c) (xs.take k))) := by
  obtain ⟨f, hp, hb, hkp⟩ := hS.focus i hi
  refine hkp w _ f ?_ (fun k h => .inl h) (Chg.none_ _ _)
  rcases hp.out with ⟨e, rfl⟩ | ⟨g, off, cap, e, hf, hlt, h2, h3, h4, h5⟩
  · injection e with e1
    exact absurd e1 h0
  · injection e with e1 e2 e3
    subst e1 e3
    have hl : (xs.take k).length = k := by rw [List.length_take]; omega
    refine ⟨.inr ⟨g, off, c, by rw [hl], hf, hlt, by omega, h3, h4, fun j x hx => h5 j x ?_⟩⟩
    rw [List.getElem?_take] at hx
    split at hx
    · exact hx
    · cases hx
/-- The same slice without its first one. -/
theorem Hold.slTail (hS : Hold w0 B w L) (i : Nat) {ad : Addr} {n c : Nat} {x : α} {xs : List α} (hi : L[i]? = some (.sl enc (.slice (some ad) n c) (x :: xs))) : Hold w0 B w (L.set i (.sl enc (.slice (some (ad.add 1)) (n - 1) (c - 1)) xs)) := by
  obtain ⟨f, hp, hb, hkp⟩ := hS.focus i hi
  refine hkp w _ f ?_ (fun k h => .inl h) (Chg.none_ _ _)
  rcases hp.out with ⟨e, h⟩ | ⟨g, off, cap, e, hf, hlt, h2, h3, h4, h5⟩
  · cases h
  · injection e with e1 e2 e3
    injection e1 with e1
    subst e1 e2 e3
    simp only [List.length_cons] at h2
    refine ⟨.inr ⟨g, off + 1, c - 1, by rw [Addr.add_lit]; simp, hf, hlt, by omega, by omega, fun j hj => ?_, fun j y hy => ?_⟩⟩
    · have := h4 (j + 1) (by omega)
      rwa [show off + (j + 1) = off + 1 + j by omega] at this
    · have := h5 (j + 1) y (by simpa using hy)
      rwa [show off + (j + 1) = off + 1 + j by omega] at this
theorem SlAt.of_own {base e n : Nat} {v : Value} {xs : List α} (h : w.ownsRow base e 1 v n (xs.map enc)) (hn : n = xs.length) {f : Nat → Prop} (hf : ∀ k, base ≤ k → f k) : SlAt enc w f v xs := by
  subst hn
  rcases h.2 with ⟨rfl, h0⟩ | ⟨g, cap, cur, rfl, hb, hh, h1, h2, h3, h4⟩
  · exact ⟨.inl ⟨rfl, List.eq_nil_of_length_eq_zero h0⟩⟩
  · have hc : ∀ o, w.cell? ⟨g, o, none⟩ = cur[o]? := fun o => by simp [World.cell?, hh]
    have hfz : ∀ o, w.frozen? ⟨g, o, none⟩ = false := fun o => by simp [World.frozen?, hh]
    refine ⟨.inr ⟨g, 0, cap, rfl, hf g hb, (Array.getElem?_eq_some_iff.1 hh).1, h1, h2, fun j hj => ⟨?_, hfz _⟩, fun j x hx => ?_⟩⟩
    · rw [hc, Array.getElem?_eq_getElem (by omega)]
      rfl
    · rw [hc, Nat.zero_add]
      have hjl := (List.getElem?_eq_some_iff.1 hx).1
      have : (cur.toList.take (xs.length * 1))[j]? = some (enc x) := by rw [h4, List.getElem?_map, hx]; rfl
      rw [List.getElem?_take, if_pos (by omega)] at this
      simpa using this
/-- append(s, ys...): ys is read, and there is one at least. -/
theorem Hold.slAppendRun {h1 : ∀ x, (enc x).oneCell' = true} (i : Nat) (hS : Hold w0 B W L) {v : Value} {xs ys : List α} (hi : L[i]? = some (.sl enc v xs)) (t ty e : TypeId) (z : Value) (bytes : Nat)
    (ht : P.underlying t = some (.slice e)) (hinfo : (P.info? e).map (fun i => (i.zero, i.size, i.bytes)) = some (some z, 1, bytes)) (hz : z.cells.size = 1)
    (A : Option Addr) (m c : Nat) (hC : (Kd.scalar enc h1).C W A m ys) (hm : 0 < m) (hmx : xs.length + m ≤ maxLen) (hl : (xs.length + m) * bytes ≤ 140737488355328) :
    ∃ v1 w1, (Builtin.append_ #[t, t] ty #[v, .slice A m c]).run P W = .ok v1 w1 ∧ Hold w0 B w1 (L.set i (.sl enc v1 (xs ++ ys))) := by
  obtain ⟨f, hp, hb, hk⟩ := hS.focus i hi
  obtain ⟨i0, hi0, hz0, hz1, hz2⟩ := info_parts hinfo
  obtain rfl : m = ys.length := hC.1.symm
  obtain ⟨ad, rfl, hcs⟩ := hC.2.2 hm
  have hnews : ∀ j u, (ys.map enc)[j]? = some u → W.cell? (ad.add j) = some u := fun j u hu => by
    rw [List.getElem?_map] at hu
    obtain ⟨y, hy, rfl⟩ := Option.map_eq_some_iff.1 hu
    obtain ⟨cs, _, hK, hcc⟩ := hcs j y hy
    have hK' : cs = [enc y] := hK
    subst hK'
    have := hcc 0 _ rfl
    have e : j * (Kd.scalar enc h1).sz + 0 = j := by show j * 1 + 0 = j; omega
    rwa [e] at this
  have hone : ∀ u ∈ ys.map enc, u.oneCell' = true := fun u hu => by
    obtain ⟨y, _, rfl⟩ := List.mem_map.1 hu
    exact h1 y
  have hgrown : ∀ v' w', w'.ownsRow W.heap.size e 1 v' (xs.length + ys.length) ((xs ++ ys).map enc) → W.grownBy w' none → Hold w0 B w' (L.set i (.sl enc v' (xs ++ ys))) := fun v' w' hown hg =>
    hk w' _ (fun k => W.heap.size ≤ k) (SlAt.of_own hown (by rw [List.length_append]) (fun k hk => hk)) (fun k h => .inr h) (Chg.of_grown hg (fun k e => by cases e))
  rcases hp.out with ⟨rfl, rfl⟩ | ⟨g, off, cap, rfl, hf, hlt, h2, h3, h4, h5⟩
  · obtain ⟨v', w', hrun, hown, hg, _⟩ := run_append_own (P := P) W W.heap.size t ty e i0 z 1 bytes ht hi0 hz0 hz1 hz2 hz (by decide) (.slice none 0 0) 0 [] (World.ownsRow_nil W _ e 1) ad ys.length c (ys.map enc) (by simp) hnews hone (by simpa using hmx) (by simpa using hl) (Nat.le_refl _)
    exact ⟨v', w', hrun, hgrown v' w' (by simpa using hown) hg⟩
  by_cases hr : xs.length + ys.length ≤ cap
  rotate_left
  · obtain ⟨v', w', hrun, hown, hg⟩ := run_append_arg_grows (P := P) W t ty e i0 z 1 bytes ht hi0 hz0 hz1 hz2 hz (by decide) ⟨g, off, none⟩ xs.length cap (xs.map enc) (by simp) (fun j u hu => by
      rw [List.getElem?_map] at hu
      obtain ⟨y, hy, rfl⟩ := Option.map_eq_some_iff.1 hu
      rw [Addr.add_lit]
      exact h5 j y hy) ad ys.length c (ys.map enc) (by simp) hnews (by omega) hmx hl
    exact ⟨v', w', hrun, hgrown v' w' (by simpa using hown) hg⟩
  · have hsp : ∀ j, j < (ys.map enc).length → (W.cell? ⟨g, off + xs.length * i0.size + j, none⟩).isSome = true ∧ W.frozen? ⟨g, off + xs.length * i0.size + j, none⟩ = false := fun j hj => by
      have hj' : j < ys.length := by simpa using hj
      have := h4 (xs.length + j) (by omega)
      rw [hz1]
      rwa [show off + xs.length * 1 + j = off + (xs.length + j) by omega]
    have hrun := run_append_room_cells (P := P) W t ty e i0 ht hi0 g off xs.length cap ad ys.length c (ys.map enc) (by simp [hz1]) hnews hone hr (fun j hj => (hsp j hj).1) (fun j hj => (hsp j hj).2)
    rw [hz1] at hrun
    refine ⟨_, _, hrun, ?_⟩
    have hsome : ∀ j, j < (ys.map enc).length → (W.cell? ⟨g, off + xs.length * 1 + j, none⟩).isSome = true := fun j hj => by
      have hj' : j < ys.length := by simpa using hj
      have := (h4 (xs.length + j) (by omega)).1
      rwa [show off + xs.length * 1 + j = off + (xs.length + j) by omega]
    have hin := World.cell?_setCells_in g (ys.map enc) (off + xs.length * 1) W hsome
    have hout := fun (p : Addr) => World.cell?_setCells_out g (ys.map enc) (off + xs.length * 1) W p
    have hsm := setCells_same g (ys.map enc) (off + xs.length * 1) W
    refine hk _ _ f ⟨.inr ⟨g, off, cap, by rw [List.length_append], hf, by rw [hsm.2.2.2]; exact hlt, by rw [List.length_append]; omega, h3, fun j hj => ⟨?_, by rw [World.frozen?_setCells]; exact (h4 j hj).2⟩, fun j y hy => ?_⟩⟩ (fun k h => .inl h) ?_
    · rcases Nat.lt_or_ge j xs.length with hj1 | hj1
      · rw [hout _ (fun _ _ => .inl (by show off + j < _; omega))]
        exact (h4 j hj).1
      · rcases Nat.lt_or_ge j (xs.length + ys.length) with hj2 | hj2
        · have := hin (j - xs.length) (by simp; omega)
          rw [show off + xs.length * 1 + (j - xs.length) = off + j by omega] at this
          rw [this]
          rfl
        · rw [hout _ (fun _ _ => .inr (by show _ ≤ off + j; simp; omega))]
          exact (h4 j hj).1
    · rcases Nat.lt_or_ge j xs.length with hj1 | hj1
      · rw [List.getElem?_append_left hj1] at hy
        rw [hout _ (fun _ _ => .inl (by show off + j < _; omega))]
        exact h5 j y hy
      · rw [List.getElem?_append_right hj1] at hy
        have hjl := (List.getElem?_eq_some_iff.1 hy).1
        have := hin (j - xs.length) (by simp; omega)
        rw [show off + xs.length * 1 + (j - xs.length) = off + j by omega] at this
        rw [this, List.getElem_map]
        congr 2
        exact (List.getElem?_eq_some_iff.1 hy).2
    · exact ⟨hsm.1, hsm.2.1, hsm.2.2.1, by rw [hsm.2.2.2]; exact Nat.le_refl _, fun k hk hn => setCells_far _ _ k (fun e => hn (e ▸ hf))⟩
theorem Hold.slAppend {h1 : ∀ x, (enc x).oneCell' = true} (i : Nat) (hS : Hold w0 B W L) {v : Value} {xs ys : List α} (hi : L[i]? = some (.sl enc v xs)) (hgd : o.guard = none) (s x : Operand) (t e : TypeId) (z : Value) (bytes : Nat)
    (ho : o.op = .call { callee := .builtin .append, args := #[s, x], argTypes := #[t, t] })
    (ht : P.underlying t = some (.slice e)) (hinfo : (P.info? e).map (fun i => (i.zero, i.size, i.bytes)) = some (some z, 1, bytes)) (hz : z.cells.size = 1)
    (A : Option Addr) (m c : Nat) (hs : a.eval s = v) (hx : a.eval x = .slice A m c) (hC : (Kd.scalar enc h1).C W A m ys) (hm : 0 < m) (hmx : xs.length + m ≤ maxLen) (hl : (xs.length + m) * bytes ≤ 140737488355328)
    (h : ∀ v1 w1, Hold w0 B w1 (L.set i (.sl enc v1 (xs ++ ys))) → wpList P ops Q rest (a.put o.dst v1) w1) : wpList P ops Q (o :: rest) a W := by
  refine wpList_plain hgd fun K hK => ?_
  obtain ⟨v1, w1, hrun, hh⟩ := Hold.slAppendRun (h1 := h1) i hS hi t o.type e z bytes ht hinfo hz A m c hC hm hmx hl
  unfold Oper.wp
  simp [execOp, ho, resolve, invoke, builtin, hs, hx, hrun, Result.andThen]
  exact hK _ _ (h v1 w1 hh)
end
/-! ### several rows of one's own, as one -/
def Asrt.rows {α : Type} (d : Kd α) (e : Nat) (l : List (Value × List α)) : Asrt where
  p := fun w f => ∀ x ∈ l, d.R e w 0 f x.1 x.2
  loc := fun h hm x hx => Kd.R_step (h x hx) hm
  mono := fun hm h x hx => Kd.R_mono (h x hx) hm
  bnd := fun h x hx => Kd.R_mono (Kd.R_bound (h x hx)) (fun _ hk => ⟨hk.1, hk.2.2.1⟩)
section
variable {α : Type} {d : Kd α} {e : Nat} {w0 w W : World} {B : Nat} {L : List Asrt}
theorem Hold.rowsNil (hS : Hold w0 B w L) (d : Kd α) (e : Nat) : Hold w0 B w (.rows d e [] :: L) :=
  hS.push (f' := fun _ => False) (fun x hx => by cases hx) (fun _ h => h.elim) (Chg.none_ _ _)
/-- Two assertions as one. -/
theorem Hold.fuse {a b c : Asrt} (hS : Hold w0 B w (a :: b :: L)) (h : ∀ f g, a.p w f → b.p w g → c.p w (fun k => f k ∨ g k)) : Hold w0 B w (c :: L) := by
  obtain ⟨F, h1, h2, h3⟩ := hS.own
  refine ⟨hS.below, hS.le, fun i k => if i = 0 then F 0 k ∨ F 1 k else F (i + 1) k, fun i x hi => ?_, fun i k hk => ?_, fun i j k hi hj => ?_⟩
  · cases i with
    | zero =>
      obtain rfl : c = x := by simpa using hi
      exact h _ _ (h1 0 a rfl) (h1 1 b rfl)
    | succ i => exact h1 (i + 2) x (by simpa using hi)
  · cases i with
    | zero => exact hk.elim (h2 0 k) (h2 1 k)
    | succ i => exact h2 (i + 2) k hk
  · cases i with
    | zero =>
      cases j with
      | zero => rfl
      | succ j =>
        exfalso
        rcases hi with hi | hi
        · have := h3 _ _ _ hi (show F (j + 2) k from hj); omega
        · have := h3 _ _ _ hi (show F (j + 2) k from hj); omega
    | succ i =>
      cases j with
      | zero =>
        exfalso
        rcases hj with hj | hj
        · have := h3 _ _ _ (show F (i + 2) k from hi) hj; omega
        · have := h3 _ _ _ (show F (i + 2) k from hi) hj; omega
      | succ j =>
        have := h3 _ _ _ (show F (i + 2) k from hi) (show F (j + 2) k from hj)
        omega
theorem Hold.rowsAdd {v : Value} {xs : List α} {l : List (Value × List α)} (hS : Hold w0 B w (.row d e v xs :: .rows d e l :: L)) : Hold w0 B w (.rows d e (l ++ [(v, xs)]) :: L) :=
  hS.fuse (fun f g h1 h2 x hx => by
    rcases List.mem_append.1 hx with hx | hx
    · exact Kd.R_mono (h2 x hx) (fun k hk => .inr hk)
    · obtain rfl := List.mem_singleton.1 hx
      exact Kd.R_mono h1 (fun k hk => .inl hk))
theorem Hold.rowsRead (hS : Hold w0 B w L) (i : Nat) {l : List (Value × List α)} (hi : L[i]? = some (.rows d e l)) {v : Value} {xs : List α} (hm : (v, xs) ∈ l) : ∃ A c, v = .slice A xs.length c ∧ xs.length ≤ c ∧ d.C w A xs.length xs := by
  obtain ⟨f, hp, _⟩ := hS.get i hi
  exact Kd.R_reads (hp _ hm)
end
/-! ### delete -/
section
variable {w0 w W : World} {B : Nat} {L : List Asrt} {ops : Array Oper} {rest : List Oper} {o : Oper} {a : Act} {Q : Exit → Act → World → Prop}
theorem Hold.mapDel (i : Nat) (hS : Hold w0 B W L) {g n : Nat} {D : DataW Value} (hi : L[i]? = some (.hm g n D)) (hgd : o.guard = none) (m x : Operand) (t : TypeId) (hop : o.op = Op.call { callee := Callee.builtin Builtin.delete, args := #[m, x], argTypes := #[t, 9] })
    (e : TypeId) (ht : Tryz.prog.underlying t = some (.map 9 e)) (s : ByteArray) (hm : a.eval m = .map (some g)) (hx : a.eval x = .string s) (hs : s.size ≤ maxLen)
    (h : ∀ w1, Hold w0 B w1 (L.set i (.hm g n (D.del (kS s)))) → wpList Tryz.prog ops Q rest (a.put o.dst (.tuple #[])) w1) : wpList Tryz.prog ops Q (o :: rest) a W := by
  refine wpList_delete_own (w := W) hgd m x t 9 hop e str_keyed ht rH g n D hm (hS.mapGet i hi) (.string s) (kS s) hx (WideMaps.keyOf_string_mk Tryz.underlying9 hs) ?_
  intro w1 h1 hg
  exact h w1 (hS.upd i hi (fun f hp => ⟨f, ⟨hp.1, h1⟩, fun k h => .inl h, by
    obtain ⟨es, clock, es', clock', hb, rfl⟩ := hg
    exact ⟨rfl, rfl, rfl, by simp [ChangeMaps.setBlock], fun k hk hn => by
      have hne : g ≠ k := fun e => hn (e ▸ hp.1)
      simp [ChangeMaps.setBlock, Array.getElem?_setIfInBounds, hne]⟩⟩))
end
end Go.Proofs.YtpcbmjphffpplaaGreatDoor
namespace Go.Proofs.YtpcbmjphffpplaaGreatDoor
open Go.RowKit Go.Proofs.YtpcbmjphffpplaaGreatDoorW.PrintWords
set_option linter.unusedVariables false
set_option linter.unusedSimpArgs false
set_option maxRecDepth 100000
/-- A key, as a value of the type Key. -/
def kyV (g : Nat) : Value := .iface 81 (.pointer (some ⟨g, 0, none⟩))
theorem kyV_eq (g : Nat) : kyV g = .iface 81 (.pointer (some ⟨g, 0, none⟩)) := rfl
theorem kyV_one (g : Nat) : (kyV g).oneCell' = true := rfl
abbrev kKy : Kd Nat := Kd.scalar kyV kyV_one
/-- A key's block. -/
def IsKy (w : World) (g : Nat) : Prop := ∃ cs t, w.heap[g]? = some (.cells cs t (0, 0))
theorem IsKy.on {w w' : World} {g : Nat} (h : IsKy w g) (hb : Below w.heap.size w w') : IsKy w' g := by
  obtain ⟨cs, t, h⟩ := h
  exact ⟨cs, t, (hb.block g (blk_lt h)).trans h⟩
theorem key_comparable : (Tryz.prog.info? 81).map (·.comparable) = some true := by kernel_rfl
theorem key_size : (Tryz.prog.info? 93).map (fun i => decide (i.size ≠ 0)) = some true := by kernel_rfl
theorem key_eq {w : World} {a b : Nat} (ha : IsKy w a) (hb : IsKy w b) : (binOp .eql 58 (.iface 81 (.pointer (some ⟨a, 0, none⟩))) (.iface 81 (.pointer (some ⟨b, 0, none⟩)))).run Tryz.prog w = .ok (.bool (decide (a = b))) w := by
  obtain ⟨i, hi, hc⟩ := Option.map_eq_some_iff.1 key_comparable
  obtain ⟨j, hj, hs⟩ := Option.map_eq_some_iff.1 key_size
  obtain ⟨ca, ta, ha⟩ := ha
  obtain ⟨cb, tb, hb⟩ := hb
  by_cases h : a = b
  · subst h
    rw [run_eql_iface_ptr_same w _ Tryz.underlying58 Tryz.underlying81 hi hc hj, decide_eq_true rfl]
  · rw [run_eql_iface_ptr_other w Tryz.underlying58 Tryz.underlying81 hi hc hj (by simpa using hs) (fun e => h (by injection e)) ha hb, decide_eq_false h]
/-- The first place of a key among some, from a place on; -1 for none. -/
def idxF (k : Nat) : List Nat → Nat → Int
  | [], _ => -1
  | x :: r, i => if x = k then (i : Int) else idxF k r (i + 1)
section
variable {w0 : World} {B : Nat} {L : List Asrt}
set_option maxHeartbeats 2000000 in
theorem setLen_any (w : World) (gs gm n : Nat) (kv : Value) (ks : List Nat) (D : DataW Value) (hS : Hold w0 B w (.blk gs (.cells #[kv, .map (some gm)] 95) :: .sl kyV kv ks :: L)) :
    Calls Tryz.prog 112 #[.pointer (some ⟨gs, 0, none⟩)] w fun e w' => e = .returned (.int .i64 (ks.length : Int)) ∧ w' = w := by
  obtain ⟨A, c, rfl, hc, hC⟩ := hS.slReads kyV_one 1 rfl
  obtain ⟨c0, _⟩ := hS.cell 0 rfl 0 (by simp)
  have hlt := hS.blk_lt 0 rfl
  clear hC hS
  go_enter Tryz.func112, Tryz.ntmps112
  go_wp2
  go_ret
  exact ⟨rfl, rfl⟩
set_option maxHeartbeats 2000000 in
theorem setKey_any (w : World) (gs gm n : Nat) (kv : Value) (ks : List Nat) (i : Int) (hS : Hold w0 B w (.blk gs (.cells #[kv, .map (some gm)] 95) :: .sl kyV kv ks :: L)) :
    Calls Tryz.prog 110 #[.pointer (some ⟨gs, 0, none⟩), .int .i64 i] w fun e w' => e = .returned (if h : 0 ≤ i ∧ i < ks.length then .tuple #[kyV (ks[i.toNat]'(by omega)), .bool true] else .tuple #[.nilIface, .bool false]) ∧ w' = w := by
  obtain ⟨A, c, rfl, hc, hC⟩ := hS.slReads kyV_one 1 rfl
  obtain ⟨c0, _⟩ := hS.cell 0 rfl 0 (by simp)
  have hlt := hS.blk_lt 0 rfl
  by_cases h : 0 ≤ i ∧ i < ks.length
  · rw [dif_pos h]
    obtain ⟨h0, h1⟩ := h
    obtain ⟨k, rfl⟩ := Int.eq_ofNat_of_zero_le h0
    have hk : k < ks.length := by omega
    obtain ⟨ad, rfl, he⟩ := C1_get hC k hk
    have HK : Aside0 (ks[((k : Int)).toNat]'(by omega) = ks[k]) := ⟨by simp⟩
    rw [HK.out]
    generalize ks[k] = x at *
    unfold kyV at he ⊢
    clear hC hS
    go_enter Tryz.func110, Tryz.ntmps110
    go_wp2
    go_ret2
    exact ⟨rfl, rfl⟩
  · rw [dif_neg h]
    clear hC hS
    by_cases h0 : 0 ≤ i
    · have h1 : (ks.length : Int) ≤ i := by omega
      clear h
      go_enter Tryz.func110, Tryz.ntmps110
      go_wp2
      go_ret2
      exact ⟨rfl, rfl⟩
    · have h1 : i < 0 := by omega
      clear h
      go_enter Tryz.func110, Tryz.ntmps110
      go_wp2
      go_ret2
      exact ⟨rfl, rfl⟩
set_option maxHeartbeats 2000000 in
theorem indexNL_any (w : World) (gs gm n k : Nat) (kv : Value) (ks : List Nat) (hk : IsKy w k) (hks : ∀ x ∈ ks, IsKy w x) (hS : Hold w0 B w (.blk gs (.cells #[kv, .map (some gm)] 95) :: .sl kyV kv ks :: L)) :
    Calls Tryz.prog 117 #[.pointer (some ⟨gs, 0, none⟩), kyV k] w fun e w' => e = .returned (.int .i64 (idxF k ks 0)) ∧ w' = w := by
  obtain ⟨A, c, rfl, hc, hC⟩ := hS.slReads kyV_one 1 rfl
  obtain ⟨c0, _⟩ := hS.cell 0 rfl 0 (by simp)
  have hlt := hS.blk_lt 0 rfl
  have HC := Aside0.mk hC
  have HE := Aside0.mk (fun (x : Nat) (hx : x ∈ ks) => key_eq (hks x hx) hk)
  clear hC hS
  unfold kyV
  have hll : ks.length ≤ 9223372036854775807 := HC.out.2.1
  go_enter Tryz.func117, Tryz.ntmps117
  go_wp2
  go_loopw [12] (fun i wr => ∃ j : Nat, j ≤ ks.length ∧ i = .int .i64 j ∧ wr = w ∧ idxF k (ks.drop j) j = idxF k ks 0) (fun i _ => ks.length - (intOf i).toNat)
  case atStart => exact ⟨0, Nat.zero_le _, rfl, rfl, rfl⟩
  case round =>
    obtain ⟨j, hj, rfl, rfl, hI⟩ := hrel
    by_cases hlt2 : j < ks.length
    · obtain ⟨ad, rfl, he⟩ := C1_get HC.out j hlt2
      have heq := HE.out ks[j] (List.getElem_mem hlt2)
      rw [List.drop_eq_getElem_cons hlt2] at hI
      generalize ks[j] = x at *
      have HI := Aside0.mk hI
      clear hI
      have hlt3 : j + 1 ≤ ks.length := hlt2
      unfold kyV at he
      by_cases hx : x = k
      · subst hx
        have HR : Aside0 (idxF x ks 0 = (j : Int)) := ⟨by rw [← HI.out]; unfold idxF; rw [if_pos rfl]⟩
        clear HI HE HC hk hks
        go_wp2
        go_ret
        exact ⟨by rw [HR.out]; rfl, rfl⟩
      · have HR : Aside0 (idxF k (ks.drop (j + 1)) (j + 1) = idxF k ks 0) := ⟨by rw [← HI.out]; conv => rhs; unfold idxF; rw [if_neg hx]⟩
        rw [decide_eq_false hx] at heq
        clear HI HE hk hks hx
        go_wp2
        go_roundw
        case rel => exact ⟨j + 1, hlt3, by go_num, trivial, HR.out⟩
        case measure => simp [intOf]; omega
    · obtain rfl : j = ks.length := by omega
      have HR : Aside0 (idxF k ks 0 = -1) := ⟨by rw [← hI, List.drop_of_length_le (Nat.le_refl _)]; rfl⟩
      clear hI HE HC hk hks
      go_wp2
      go_ret
      exact ⟨by rw [HR.out]; rfl, rfl⟩
set_option maxHeartbeats 2000000 in
theorem setIndex_any (w : World) (gs gm n k : Nat) (kv : Value) (ks : List Nat) (hk : IsKy w k) (hks : ∀ x ∈ ks, IsKy w x) (hS : Hold w0 B w (.blk gs (.cells #[kv, .map (some gm)] 95) :: .sl kyV kv ks :: L)) :
    Calls Tryz.prog 109 #[.pointer (some ⟨gs, 0, none⟩), kyV k] w fun e w' => e = .returned (.int .i64 (idxF k ks 0)) ∧ w' = w := by
  have HI := Aside0.mk (indexNL_any w gs gm n k kv ks hk hks hS)
  clear hk hks hS
  unfold kyV at HI ⊢
  go_enter Tryz.func109, Tryz.ntmps109
  go_wp2_with fail
  refine HI.out.mono ?_
  rintro e w1 ⟨rfl, rfl⟩
  go_wp2
  go_ret
  exact ⟨rfl, rfl⟩
end
end Go.Proofs.YtpcbmjphffpplaaGreatDoor
namespace Go.Proofs.YtpcbmjphffpplaaGreatDoor
open Go.RowKit Go.Proofs.YtpcbmjphffpplaaGreatDoorW.PrintWords
set_option linter.unusedVariables false
set_option linter.unusedSimpArgs false
set_option maxRecDepth 100000
theorem errNewK (w : World) (s : ByteArray) :
    Calls Tryz.prog 35 #[.string s] w fun e w' => e = .returned (.iface 135 (.pointer (some ⟨w.heap.size, 0, none⟩))) ∧ Below w.heap.size w w' := by
  have hu := Tryz.underlying137
  have H1 := Aside0.mk ((Hold.start w).alloc_ (.cells #[.string s] 137))
  go_enter Tryz.func35, Tryz.ntmps35
  go_wp2
  go_ret
  exact ⟨rfl, H1.out.below⟩
/-- No error, or one. -/
def ErrE (ok : Bool) (r : Value) : Prop := if ok = true then r = .nilIface else ∃ g, r = .iface 135 (.pointer (some ⟨g, 0, none⟩))
instance instMemBA (s : ByteArray) (ns : List ByteArray) : Decidable (s ∈ ns) := decidable_of_iff (ns.any (fun t => decide (t = s)) = true) (by simp)
/-- The keys of a map. -/
structure DMap (D : DataW Value) (ns : List ByteArray) : Prop where
  tidy : Maps.Tidy D
  has : ∀ s, Maps.has D (kS s) = decide (s ∈ ns)
  nd : ns.Nodup
  size : Maps.size D = ns.length
theorem DMap.nil : DMap (.map []) [] := ⟨Maps.tidy_empty, fun s => rfl, List.nodup_nil, rfl⟩
def putN (s : ByteArray) (ns : List ByteArray) : List ByteArray := if s ∈ ns then ns else ns ++ [s]
theorem isKeyS (s : ByteArray) : WideAt.IsKeyLit (kS s) := trivial
theorem DMap.put {D : DataW Value} {ns : List ByteArray} (h : DMap D ns) (s : ByteArray) (v : DataW Value) : DMap (D.put (kS s) v) (putN s ns) := by
  refine ⟨h.tidy.put (isKeyS s) v, fun t => ?_, ?_, ?_⟩
  · by_cases e : t = s
    · subst e
      rw [Maps.has_put_same h.tidy.isMap (isKeyS t)]
      unfold putN
      split
      · rename_i hm; exact (decide_eq_true hm).symm
      · exact (decide_eq_true (by simp)).symm
    · rw [Maps.has_put_other (fun h2 => e (kS_inj h2)), h.has]
      unfold putN
      split
      · rfl
      · congr 1
        simp [e]
  · unfold putN
    split
    · exact h.nd
    · rename_i hn
      rw [List.nodup_append]
      exact ⟨h.nd, by simp, fun a ha b hb => by
        obtain rfl := List.mem_singleton.1 hb
        rintro rfl
        exact hn ha⟩
  · rw [Maps.size_put h.tidy, h.has, h.size]
    unfold putN
    by_cases hm : s ∈ ns
    · rw [if_pos (by simpa using hm), if_pos hm]
    · rw [if_neg (by simpa using hm), if_neg hm]
      simp
theorem DMap.del {D : DataW Value} {ns : List ByteArray} (h : DMap D ns) (s : ByteArray) : DMap (D.del (kS s)) (ns.filter fun t => !decide (t = s)) := by
  refine ⟨h.tidy.del _, fun t => ?_, h.nd.filter _, ?_⟩
  · by_cases e : t = s
    · subst e
      rw [Maps.has_del_same]
      simp
    · rw [Maps.has_del_other (fun h2 => e (kS_inj h2)), h.has]
      simp [e]
  · have h1 := Maps.size_del (k := kS s) h.tidy
    rw [h.has, h.size] at h1
    have h2 : (ns.filter fun t => !decide (t = s)).length + (if s ∈ ns then 1 else 0) = ns.length := by
      clear h1
      have hnd := h.nd
      clear h
      induction ns with
      | nil => rfl
      | cons x r ih =>
        rw [List.nodup_cons] at hnd
        have ih := ih hnd.2
        by_cases e : x = s
        · subst e
          have hf : (r.filter fun t => !decide (t = x)) = r := List.filter_eq_self.2 (fun t ht => by
            have : t ≠ x := fun h => hnd.1 (h ▸ ht)
            simp [this])
          simp [hf]
        · have e2 : ¬ s = x := fun h => e h.symm
          simp only [List.filter_cons, e, decide_false, Bool.not_false, if_true, List.length_cons, List.mem_cons, e2, false_or]
          omega
    by_cases hm : s ∈ ns
    · rw [if_pos (by simpa using hm)] at h1
      rw [if_pos hm] at h2
      omega
    · rw [if_neg (by simpa using hm)] at h1
      rw [if_neg hm] at h2
      omega
theorem idxF_none (k : Nat) : ∀ (ks : List Nat) (i : Nat), k ∉ ks → idxF k ks i = -1
  | [], _, _ => rfl
  | x :: r, i, h => by
    unfold idxF
    rw [if_neg (fun e => h (by rw [e]; simp))]
    exact idxF_none k r (i + 1) (fun hh => h (List.mem_cons_of_mem _ hh))
theorem idxF_some (k : Nat) : ∀ (ks : List Nat) (i : Nat), k ∈ ks → ∃ j : Nat, idxF k ks i = (j : Int) ∧ i ≤ j
  | x :: r, i, h => by
    unfold idxF
    by_cases e : x = k
    · exact ⟨i, by rw [if_pos e], Nat.le_refl _⟩
    · rw [if_neg e]
      obtain ⟨j, h1, h2⟩ := idxF_some k r (i + 1) ((List.mem_cons.1 h).resolve_left (fun hh => e hh.symm))
      exact ⟨j, h1, by omega⟩
def addF (k : Nat) (ks : List Nat) : List Nat := if k ∈ ks then ks else ks ++ [k]
theorem infoKy : (Tryz.prog.info? 58).map (fun i => (i.zero, i.size, i.bytes)) = some (some .nilIface, 1, 16) := by kernel_rfl
section
variable {w0 : World} {B : Nat} {L : List Asrt}
theorem Hold.slNil {α : Type} {w : World} (hS : Hold w0 B w L) (enc : α → Value) : Hold w0 B w (.sl enc (.slice none 0 0) [] :: L) :=
  hS.push (f' := fun _ => False) ⟨.inl ⟨rfl, rfl⟩⟩ (fun _ h => h.elim) (Chg.none_ _ _)
theorem Hold.slForm {α : Type} {enc : α → Value} {w : World} (h1 : ∀ x, (enc x).oneCell' = true) (hS : Hold w0 B w L) (i : Nat) {v : Value} {xs : List α} (hi : L[i]? = some (.sl enc v xs)) (n : Nat) (hn : xs.length = n) : ∃ A c, v = .slice A n c ∧ n ≤ c := by
  obtain ⟨A, c, e, hle, _⟩ := hS.slReads h1 i hi
  exact ⟨A, c, by rw [e, hn], by omega⟩
theorem setStore {w : World} {gs gm : Nat} {kv v : Value} {ks : List Nat} (hS : Hold w0 B w (.blk gs (.cells #[kv, .map (some gm)] 95) :: .sl kyV v ks :: L)) : Hold w0 B (w.setCell ⟨gs, 0, none⟩ v) (.blk gs (.cells #[v, .map (some gm)] 95) :: .sl kyV v ks :: L) := hS.store 0 rfl 0 v
set_option maxHeartbeats 2000000 in
theorem newSet_any (w : World) : Calls Tryz.prog 25 #[] w fun e w' => ∃ gs gm, e = .returned (.pointer (some ⟨gs, 0, none⟩)) ∧ Hold w w.heap.size w' [.blk gs (.cells #[.slice none 0 0, .map (some gm)] 95), .sl kyV (.slice none 0 0) [], .hm gm 0 (.map [])] := by
  have hu := Tryz.underlying95
  have hmm := @run_makeMap Tryz.prog
  have H1 := (Hold.start w).mapMade
  have H2' := (H1.slNil kyV).alloc (.cells #[.slice none 0 0, .map (some w.heap.size)] 95)
  rw [World.size_alloc] at H2'
  have H2 := Aside0.mk H2'
  clear H2'
  clear H1
  go_enter Tryz.func25, Tryz.ntmps25
  go_wp2
  go_ret
  exact ⟨_, _, rfl, H2.out⟩
theorem NewSet_any (w : World) : Calls Tryz.prog 17 #[] w fun e w' => ∃ gs gm, e = .returned (.iface 83 (.pointer (some ⟨gs, 0, none⟩))) ∧ Hold w w.heap.size w' [.blk gs (.cells #[.slice none 0 0, .map (some gm)] 95), .sl kyV (.slice none 0 0) [], .hm gm 0 (.map [])] := by
  go_enter Tryz.func17, Tryz.ntmps17
  go_wp2_with fail
  refine (newSet_any w).mono ?_
  rintro e w1 ⟨gs, gm, rfl, h⟩
  have H1 := Aside0.mk h
  clear h
  go_wp2
  go_ret
  exact ⟨gs, gm, rfl, H1.out⟩
set_option maxHeartbeats 4000000 in
theorem addKey_any (w : World) (gs gm k : Nat) (kv : Value) (ks : List Nat) (hk : IsKy w k) (hks : ∀ x ∈ ks, IsKy w x) (hkl : ks.length ≤ 1000000) (hS : Hold w0 B w (.blk gs (.cells #[kv, .map (some gm)] 95) :: .sl kyV kv ks :: L)) :
    Calls Tryz.prog 105 #[.pointer (some ⟨gs, 0, none⟩), kyV k] w fun e w' => ∃ r kv', e = .returned r ∧ ErrE (decide (k ∉ ks)) r ∧ Hold w0 B w' (.blk gs (.cells #[kv', .map (some gm)] 95) :: .sl kyV kv' (addF k ks) :: L) := by
  have HI := Aside0.mk (indexNL_any w gs gm 0 k kv ks hk hks hS)
  have HS := Aside0.mk hS
  have hu := Tryz.underlying95
  clear hk hks hS
  by_cases hm : k ∈ ks
  · obtain ⟨j, hj, _⟩ := idxF_some k ks 0 hm
    rw [hj] at HI
    have HR : Aside0 (addF k ks = ks ∧ decide (k ∉ ks) = false) := ⟨if_pos hm, by simpa using hm⟩
    rw [HR.out.1, HR.out.2]
    have j0 : (-1 : Int) < (j : Int) := by omega
    rw [kyV_eq k] at HI ⊢
    clear hm hj
    go_enter Tryz.func105, Tryz.ntmps105
    go_wp2_with fail
    refine HI.out.mono ?_
    rintro e w1 ⟨rfl, rfl⟩
    clear HI
    go_wp2_with fail
    refine (errNewK _ _).mono ?_
    rintro e w2 ⟨rfl, hb⟩
    have H2 := Aside0.mk (HS.out.of_below hb)
    clear hb
    go_wp2
    go_ret
    exact ⟨_, kv, rfl, ⟨_, rfl⟩, H2.out⟩
  · rw [idxF_none k ks 0 hm] at HI
    have HR : Aside0 (addF k ks = ks ++ [k] ∧ decide (k ∉ ks) = true) := ⟨if_neg hm, by simpa using hm⟩
    rw [HR.out.1, HR.out.2]
    obtain ⟨A, c, rfl, hc, hC⟩ := HS.out.slReads kyV_one 1 rfl
    obtain ⟨c0, f0⟩ := HS.out.cell 0 rfl 0 (by simp)
    have hlt := HS.out.blk_lt 0 rfl
    have H2 := Aside0.mk (HS.out.alloc_ (.cells #[kyV k] 58))
    have HC1 := Aside0.mk (C1_lit (enc := kyV) (h1 := kyV_one) w 58 w.heap.size rfl [k] (by show 1 ≤ maxLen; decide))
    have Hl : Aside0 (ks.length + 1 ≤ maxLen ∧ (ks.length + 1) * 16 ≤ 140737488355328) := ⟨by simp only [maxLen]; omega, by omega⟩
    rw [kyV_eq k] at HI ⊢
    clear hm hC
    go_enter Tryz.func105, Tryz.ntmps105
    go_wp2_with fail
    refine HI.out.mono ?_
    rintro e w1 ⟨rfl, rfl⟩
    clear HI
    go_wp2_with ((with_reducible refine at_bi (b := .append) (xs := #[.tmp 19, .tmp 21]) rfl ?_); at_builtin; refine Hold.slAppend (h1 := kyV_one) 1 H2.out rfl rfl (.tmp 19) (.tmp 21) 49 58 .nilIface 16 rfl Tryz.underlying49 infoKy rfl _ 1 1 rfl rfl HC1.out (by decide) Hl.out.1 Hl.out.2 ?_; intro v1 w2 H3'; have H3 := Aside0.mk H3'; clear H3'; obtain ⟨A1, c1, rfl, hle1⟩ := H3.out.slForm kyV_one 1 rfl (ks.length + 1) (by simp); obtain ⟨c9, f9⟩ := H3.out.cell 0 rfl 0 (by simp); have H4 := Aside0.mk (setStore H3.out))
    go_ret
    exact ⟨_, _, rfl, rfl, H4.out⟩
end
end Go.Proofs.YtpcbmjphffpplaaGreatDoor
namespace Go.Proofs.YtpcbmjphffpplaaGreatDoor
open Go.RowKit Go.Proofs.YtpcbmjphffpplaaGreatDoorW.PrintWords
set_option linter.unusedVariables false
set_option linter.unusedSimpArgs false
set_option maxRecDepth 100000
theorem strK_ne {s : ByteArray} {bs : List UInt8} (h : s ≠ ⟨bs.toArray⟩) : (s.toList == bs) = false := by
  rw [ByteArray.toList_eq s]
  refine Bool.eq_false_iff.2 (fun hh => h ?_)
  have h2 := eq_of_beq hh
  cases s with
  | mk d =>
    have h3 : d.toList = bs := h2
    rw [← h3]
theorem strK_eq {s : ByteArray} {bs : List UInt8} (h : s = ⟨bs.toArray⟩) : (s.toList == bs) = true := by
  rw [ByteArray.toList_eq s, h]
  simp
def lKeys : ByteArray := ⟨#[107, 101, 121, 115]⟩
def txV (s : ByteArray) : Value := .iface 9 (.string s)
theorem ta_keys : ∀ (t : ByteArray) (W : World), (Instr.typeAssert (.iface 9 (.string t)) 20 49 true).run Tryz.prog W = .ok (.tuple #[.slice none 0 0, .bool false]) W := fun t W => by kernel_rfl
theorem map_range_get {β : Type} : ∀ (L : List β), (List.range L.length).map (fun i => L[i]?) = L.map some := fun L => by
  apply List.ext_getElem?
  intro i
  rw [List.getElem?_map, List.getElem?_map]
  by_cases h : i < L.length
  · rw [List.getElem?_range h, List.getElem?_eq_getElem h]
    simp [List.getElem?_eq_getElem h]
  · rw [List.getElem?_eq_none (by simpa using h), List.getElem?_eq_none (by simpa using h)]
    rfl
section
variable {w0 : World} {B : Nat} {L : List Asrt}
/-- Some of the first ones, in another order. -/
theorem Hold.pickA {w : World} {M M' : List Asrt} (hS : Hold w0 B w (M ++ L)) (σ : List Nat) (hσ : σ.Nodup) (hl : ∀ i ∈ σ, i < M.length) (h : M'.map some = σ.map (fun i => M[i]?)) : Hold w0 B w (M' ++ L) := by
  refine hS.pick (σ ++ (List.range L.length).map (M.length + ·)) ?_ ?_
  · rw [List.nodup_append]
    refine ⟨hσ, ?_, fun a ha b hb => ?_⟩
    · exact List.Pairwise.map (M.length + ·) (fun a b hab h2 => hab (by omega)) List.nodup_range
    · obtain ⟨j, _, rfl⟩ := List.mem_map.1 hb
      have := hl a ha
      omega
  · rw [List.map_append, List.map_append, h, List.map_map]
    congr 1
    · refine List.map_congr_left (fun i hi => ?_)
      rw [List.getElem?_append_left (hl i hi)]
    · rw [← map_range_get L]
      refine List.map_congr_left (fun i hi => ?_)
      show _ = (M ++ L)[M.length + i]?
      rw [List.getElem?_append_right (by omega), Nat.add_sub_cancel_left]
set_option maxHeartbeats 4000000 in
theorem setSet_any (w : World) (gs gm n : Nat) (kv : Value) (ks : List Nat) (D : DataW Value) (s t : ByteArray) (hs : s.size ≤ maxLen) (hn : n < maxLen) (hS : Hold w0 B w (.blk gs (.cells #[kv, .map (some gm)] 95) :: .sl kyV kv ks :: .hm gm n D :: L)) :
    Calls Tryz.prog 116 #[.pointer (some ⟨gs, 0, none⟩), .string s, .iface 9 (.string t)] w fun e w' => ∃ r, e = .returned r ∧ ErrE (decide (s ≠ lKeys)) r ∧
      Hold w0 B w' (.blk gs (.cells #[kv, .map (some gm)] 95) :: .sl kyV kv ks :: (if s = lKeys then .hm gm n D else .hm gm (n + 1) (D.put (kS s) (.held (txV t)))) :: L) := by
  have HS := Aside0.mk hS
  obtain ⟨c1, f1⟩ := hS.cell 0 rfl 1 (by simp)
  have hlt := hS.blk_lt 0 rfl
  clear hS
  by_cases e : s = lKeys
  · subst e
    have ht := ta_keys t
    rw [decide_eq_false (by simp), if_pos rfl]
    have he : (lKeys.toList == [107, 101, 121, 115]) = true := strK_eq rfl
    go_enter Tryz.func116, Tryz.ntmps116
    go_wp2_with fail
    refine (errNewK _ _).mono ?_
    rintro e w2 ⟨rfl, hb⟩
    have H2 := Aside0.mk (HS.out.of_below hb)
    clear hb
    go_wp2
    go_ret
    exact ⟨_, rfl, ⟨_, rfl⟩, H2.out⟩
  · rw [decide_eq_true e, if_neg e]
    have he : (s.toList == [107, 101, 121, 115]) = false := strK_ne e
    clear e
    go_enter Tryz.func116, Tryz.ntmps116
    go_wp2_with (at_mapUpdate; refine Hold.mapPut 2 HS.out rfl rfl (.tmp 26) (.tmp 27) (.tmp 28) 88 20 rfl Tryz.underlying88 s (txV t) rfl rfl rfl hn hs ?_; intro w1 h1; have H2 := Aside0.mk h1; clear h1)
    go_ret
    exact ⟨_, rfl, rfl, H2.out⟩
set_option maxHeartbeats 4000000 in
theorem setRemove_any (w : World) (gs gm n : Nat) (kv : Value) (ks : List Nat) (D : DataW Value) (s : ByteArray) (hs : s.size ≤ maxLen) (hS : Hold w0 B w (.blk gs (.cells #[kv, .map (some gm)] 95) :: .sl kyV kv ks :: .hm gm n D :: L)) :
    Calls Tryz.prog 114 #[.pointer (some ⟨gs, 0, none⟩), .string s] w fun e w' => e = .returned .nilIface ∧
      Hold w0 B w' (.blk gs (.cells #[kv, .map (some gm)] 95) :: .sl kyV kv ks :: .hm gm n (D.del (kS s)) :: L) := by
  have HS := Aside0.mk hS
  obtain ⟨c1, f1⟩ := hS.cell 0 rfl 1 (by simp)
  have hlt := hS.blk_lt 0 rfl
  clear hS
  go_enter Tryz.func114, Tryz.ntmps114
  go_wp2_with (at_delete; refine Hold.mapDel 2 HS.out rfl rfl (.tmp 8) (.tmp 9) 88 rfl 20 Tryz.underlying88 s rfl rfl hs ?_; intro w1 h1; have H2 := Aside0.mk h1; clear h1)
  go_ret
  exact ⟨rfl, H2.out⟩
set_option maxHeartbeats 4000000 in
theorem setClear_any (w : World) (gs gm n : Nat) (kv : Value) (ks : List Nat) (D : DataW Value) (hS : Hold w0 B w (.blk gs (.cells #[kv, .map (some gm)] 95) :: .sl kyV kv ks :: .hm gm n D :: L)) :
    Calls Tryz.prog 106 #[.pointer (some ⟨gs, 0, none⟩)] w fun e w' => e = .returned .nilIface ∧ ∃ gm',
      Hold w0 B w' (.blk gs (.cells #[.slice none 0 0, .map (some gm')] 95) :: .sl kyV (.slice none 0 0) [] :: .hm gm' 0 (.map []) :: L) := by
  have hmm := @run_makeMap Tryz.prog
  have H1' := ((hS.store 0 rfl 0 (.slice none 0 0)).store 0 rfl 1 (.map (some w.heap.size))).mapMade
  have hsz : ((w.setCell ⟨gs, 0, none⟩ (.slice none 0 0)).setCell ⟨gs, 1, none⟩ (.map (some w.heap.size))).heap.size = w.heap.size := by simp
  rw [hsz] at H1'
  have H1 := Aside0.mk H1'
  clear H1'
  have HS := Aside0.mk hS
  obtain ⟨c0, f0⟩ := hS.cell 0 rfl 0 (by simp)
  obtain ⟨c1, f1⟩ := hS.cell 0 rfl 1 (by simp)
  have hlt := hS.blk_lt 0 rfl
  clear hS
  go_enter Tryz.func106, Tryz.ntmps106
  go_wp2
  go_ret
  have H2 := H1.out.slNil kyV
  have H3 := H2.pickA (M := [_, _, _, _, _]) [2, 0, 1] (by decide) (by simp) (M' := [_, _, _]) rfl
  exact ⟨rfl, _, H3⟩
end
end Go.Proofs.YtpcbmjphffpplaaGreatDoor
namespace Go.Proofs.YtpcbmjphffpplaaGreatDoor
open Go.RowKit Go.Proofs.YtpcbmjphffpplaaGreatDoorW.PrintWords
set_option linter.unusedVariables false
set_option linter.unusedSimpArgs false
set_option maxRecDepth 100000
theorem info9 : (Tryz.prog.info? 9).map (fun i => (i.zero, i.size, i.bytes)) = some (some (.string ByteArray.empty), 1, 16) := by kernel_rfl
/-- What has come of a map's keys, and what stands where they are put. -/
structure KeysR (w0 : World) (B gs gm n r c : Nat) (kv : Value) (ks : List Nat) (D : DataW Value) (ns : List ByteArray) (A : Option Addr) (L : List Asrt) (iv : Value) (wr : World) : Prop where
  out : ∃ vis left cnt, iv = .int .i64 ((vis.length : Nat) : Int) ∧ vis.Nodup ∧ (∀ s, left (kS s) = (decide (s ∈ ns) && !decide (s ∈ vis))) ∧ vis.length + cnt ≤ ns.length ∧ (∀ s ∈ vis, s ∈ ns ∧ s.size ≤ maxLen) ∧
    Hold w0 B wr (.rng gm r n D left cnt :: .row Kd.string 9 (.slice A ns.length c) (vis ++ List.replicate (ns.length - vis.length) ByteArray.empty) :: .blk gs (.cells #[kv, .map (some gm)] 95) :: .sl kyV kv ks :: L)
section
variable {w0 : World} {B : Nat} {L : List Asrt}
theorem Hold.rowForm {α : Type} {d : Kd α} {e : Nat} {w : World} (hS : Hold w0 B w L) (i : Nat) {v : Value} {xs : List α} (hi : L[i]? = some (.row d e v xs)) (n : Nat) (hn : xs.length = n) : ∃ A c, v = .slice A n c ∧ n ≤ c := by
  obtain ⟨A, c, e, hle, _⟩ := hS.reads i hi
  exact ⟨A, c, by rw [e, hn], by omega⟩
theorem sameKey_kS (a b : ByteArray) : (kS a).sameKey (kS b) = decide (a = b) := by
  by_cases h : a = b
  · subst h
    rw [decide_eq_true rfl]
    exact WideAt.sameKey_self (isKeyS a)
  · rw [decide_eq_false h]
    exact Maps.sameKey_ne (fun e => h (kS_inj e))
theorem list_fill {α : Type} (vis : List α) (z s : α) (n : Nat) (h : vis.length < n) : (vis ++ List.replicate (n - vis.length) z).set vis.length s = (vis ++ [s]) ++ List.replicate (n - (vis ++ [s]).length) z := by
  obtain ⟨m, hm⟩ : ∃ m, n - vis.length = m + 1 := ⟨n - vis.length - 1, by omega⟩
  have h2 : n - (vis ++ [s]).length = m := by simp; omega
  rw [hm, h2, List.replicate_succ, List.set_append_right _ _ (Nat.le_refl _), Nat.sub_self]
  simp
set_option maxHeartbeats 4000000 in
theorem setKeys_any (w : World) (gs gm n : Nat) (kv : Value) (ks : List Nat) (D : DataW Value) (ns : List ByteArray) (hD : DMap D ns) (hn : ns.length ≤ 1000000) (hS : Hold w0 B w (.blk gs (.cells #[kv, .map (some gm)] 95) :: .sl kyV kv ks :: .hm gm n D :: L)) :
    Calls Tryz.prog 111 #[.pointer (some ⟨gs, 0, none⟩)] w fun e w' => ∃ v l, e = .returned v ∧ l.Perm ns ∧ (∀ s ∈ l, s.size ≤ maxLen) ∧
      Hold w0 B w' (.row Kd.string 9 v l :: .blk gs (.cells #[kv, .map (some gm)] 95) :: .sl kyV kv ks :: .hm gm n D :: L) := by
  have HS := Aside0.mk hS
  obtain ⟨c1, f1⟩ := hS.cell 0 rfl 1 (by simp)
  have hlt := hS.blk_lt 0 rfl
  have HD := Aside0.mk hD
  have HZ := Aside0.mk hD.size
  clear hS hD
  go_enter Tryz.func111, Tryz.ntmps111
  go_wp2_with (first | (at_len; refine Hold.mapLen 2 HS.out rfl rfl (.tmp 9) 88 20 rfl Tryz.underlying88 rfl ns.length HZ.out ?_) | (with_reducible refine at_dst (N := 11) rfl ?_; refine Hold.make (enc := Value.string) (h1 := fun _ => rfl) HS.out 9 rfl rfl 35 (.tmp 10) (.tmp 10) rfl (ns.length : Int) rfl rfl Tryz.underlying35 ByteArray.empty 16 info9 rfl (by decide) (by omega) (by omega) ?_; intro v1 w1 h1; rw [Int.toNat_natCast] at h1; have H1 := Aside0.mk h1; clear h1; obtain ⟨A1, cc, rfl, hle1⟩ := H1.out.rowForm 0 rfl ns.length (by simp); obtain ⟨d1, g1⟩ := H1.out.cell 1 rfl 1 (by simp)) | (at_range; refine Hold.mapRange 3 H1.out rfl rfl (.tmp 15) 88 20 rfl Tryz.underlying88 rfl ?_; intro w6 h6; have H7 := Aside0.mk h6; clear h6))
  have H8 : Aside0 (Hold w0 B w6 (.rng gm w1.heap.size n D (Maps.has D) (Maps.size D) :: .row Kd.string 9 (.slice A1 ns.length cc) ([] ++ List.replicate (ns.length - 0) ByteArray.empty) :: .blk gs (.cells #[kv, .map (some gm)] 95) :: .sl kyV kv ks :: L)) := ⟨H7.out.pickA (M := [_, _, _, _]) [3, 0, 1, 2] (by decide) (by simp) (M' := [_, _, _, _]) rfl⟩
  clear H7 H1 c1 f1 d1 g1
  go_frame
  generalize w1.heap.size = r5 at *
  go_loopw [4, 5] (fun iv _ wr => KeysR w0 B gs gm n r5 cc kv ks D ns A1 L iv wr) (fun _ _ wr => wr.rangeLeft gm r5)
  case atStart => exact ⟨[], Maps.has D, Maps.size D, rfl, List.nodup_nil, fun s => (by rw [HD.out.has]; simp), (by rw [HZ.out]; simp), fun s h => (by cases h), H8.out⟩
  case round =>
    obtain ⟨vis, left, cnt, rfl, hnd, hleft, hcnt, hvis, hR⟩ := hrel.out
    clear hrel H8
    have HR := Aside0.mk hR
    have HV := Aside0.mk (And.intro hnd (And.intro hleft (And.intro hcnt hvis)))
    clear hR hnd hleft hvis hcnt
    go_wp2_with (at_next; refine Hold.mapNext 0 HR.out rfl rfl (.tmp 16) rfl rfl ?_ ?_)
    · intro h0 hl0
      have hp : vis.Perm ns := (List.perm_ext_iff_of_nodup HV.out.1 HD.out.nd).2 (fun s => ⟨fun h => (HV.out.2.2.2 s h).1, fun h => by
        have := hl0 (kS s)
        rw [HV.out.2.1, decide_eq_true h, Bool.true_and] at this
        simpa using this⟩)
      have hl : ns.length - vis.length = 0 := by rw [hp.length_eq]; omega
      have h9 := HR.out.rngDone 0 rfl
      rw [hl, List.replicate_zero, List.append_nil] at h9
      have HE := Aside0.mk (h9.pickA (M := [_, _, _, _]) [1, 2, 3, 0] (by decide) (by simp) (M' := [_, _, _, _]) rfl)
      have HP := Aside0.mk hp
      clear h9 hl h0 hl0 hp HR
      go_wp2
      go_ret
      exact ⟨_, vis, rfl, HP.out, fun s h => (HV.out.2.2.2 s h).2, HE.out⟩
    · intro s v w2 cnt1 hs9 hlk hat hH hlt9 hen
      have hlt5 : vis.length < ns.length := by have := HV.out.2.2.1; omega
      obtain ⟨g, cg, e1, hg1, hg2, _, hg3⟩ := Hold.form hH 1 rfl (by simp; omega)
      injection e1 with e1 e2 e3
      subst e1 e3
      have hcell := Hold.at1 (hH : Hold w0 B w2 (_ :: .row (Kd.scalar Value.string _) _ _ _ :: _)) 1 rfl vis.length (by simp; omega)
      have hfz := hg3 vis.length
      have hmem : s ∈ ns ∧ s ∉ vis := by
        rw [HV.out.2.1] at hlk
        simpa using hlk
      have hset := Hold.setCell1 (hH : Hold w0 B w2 (_ :: .row (Kd.scalar Value.string _) _ _ _ :: _)) 1 rfl vis.length hlt5 s
      have hnew : (KeysR w0 B gs gm n r5 cc kv ks D ns (some ⟨g, 0, none⟩) L (.int .i64 ((vis.length + 1 : Nat) : Int)) (w2.setCell ⟨g, vis.length, none⟩ (.string s)) ∧ (w2.setCell ⟨g, vis.length, none⟩ (.string s)).rangeLeft gm r5 < wr.rangeLeft gm r5) := by
       refine ⟨⟨vis ++ [s], (fun z => left z && !z.sameKey (kS s)), cnt1, (by simp), ?_, ?_, ?_, ?_, ?_⟩, ?_⟩
       rotate_right
       · have h1 := hset.rngLeft 0 rfl
         rw [h1, HR.out.rngLeft 0 rfl]
         exact hlt9
       · rw [List.nodup_append]
         exact ⟨HV.out.1, by simp, fun a ha b hb => by
           obtain rfl := List.mem_singleton.1 hb
           rintro rfl
           exact hmem.2 ha⟩
       · intro t
         show (left (kS t) && !(kS t).sameKey (kS s)) = _
         rw [HV.out.2.1, sameKey_kS]
         by_cases e : t = s
         · subst e; simp
         · simp [e]
       · have := HV.out.2.2.1
         simp
         omega
       · intro t ht
         rcases List.mem_append.1 ht with ht | ht
         · exact HV.out.2.2.2 t ht
         · obtain rfl := List.mem_singleton.1 ht
           exact ⟨hmem.1, hs9⟩
       · rw [list_fill vis ByteArray.empty s ns.length hlt5] at hset
         exact hset
      have HN := Aside0.mk hnew
      obtain ⟨u0, hu0⟩ : ∃ u, w2.cell? ⟨g, vis.length, none⟩ = some u := ⟨_, hcell⟩
      clear hcell hg1
      clear hnew hset hmem hat hlk hH hlt9 hg2 hg3 HV HR hle1 e2
      go_wp2
      go_roundw
      case rel => exact HN.out.1
      case measure => exact HN.out.2
end
end Go.Proofs.YtpcbmjphffpplaaGreatDoor
