/-
  Words of this session: what a walk holds in memory, as one list of assertions with separate footprints ('Hold'). Over the printed words (Kd). No program in sight.
-/
import Derived.Test.YtldbelghobohiaaGreatWWords
namespace Go.Proofs.YtldbelghobohiaaGreat
open Go.RowKit Go.Proofs.YtldbelghobohiaaGreatW.PrintWords
set_option linter.unusedVariables false
set_option linter.unusedSimpArgs false

/-- What stands in some blocks. -/
structure Asrt where
  p : World → (Nat → Prop) → Prop
  loc : ∀ {w w1 : World} {f : Nat → Prop}, p w f → (∀ k, f k → k < w.heap.size → w1.heap[k]? = w.heap[k]?) → p w1 f
  mono : ∀ {w : World} {f f' : Nat → Prop}, (∀ k, f k → f' k) → p w f → p w f'
  bnd : ∀ {w : World} {f : Nat → Prop}, p w f → p w (fun k => f k ∧ k < w.heap.size)

/-- A row of the call's own. -/
def Asrt.row {α : Type} (d : Kd α) (e : Nat) (v : Value) (xs : List α) : Asrt where
  p := fun w f => d.R e w 0 f v xs
  loc := fun h hm => Kd.R_step h hm
  mono := fun hm h => Kd.R_mono h hm
  bnd := fun h => Kd.R_mono (Kd.R_bound h) (fun _ hk => ⟨hk.1, hk.2.2.1⟩)

/-- A block, as it is. -/
def Asrt.blk (g : Nat) (o : Obj) : Asrt where
  p := fun w f => f g ∧ w.heap[g]? = some o
  loc := fun h hm => ⟨h.1, (hm _ h.1 (blk_lt h.2)).trans h.2⟩
  mono := fun hm h => ⟨hm _ h.1, h.2⟩
  bnd := fun h => ⟨⟨h.1, blk_lt h.2⟩, h.2⟩

/-- Nothing. -/
def Asrt.emp : Asrt where
  p := fun _ _ => True
  loc := fun _ _ => trivial
  mono := fun _ _ => trivial
  bnd := fun _ => trivial

structure Chg (w w' : World) (f : Nat → Prop) : Prop where
  os : w'.os = w.os
  tape : w'.tape = w.tape
  output : w'.output = w.output
  size : w.heap.size ≤ w'.heap.size
  block : ∀ k, k < w.heap.size → ¬ f k → w'.heap[k]? = w.heap[k]?

theorem Chg.of_below {w w' : World} (h : Below w.heap.size w w') (f : Nat → Prop) : Chg w w' f := ⟨h.os, h.tape, h.output, h.size, fun k hk _ => h.block k hk⟩
theorem Chg.of_grown {w w' : World} {row : Option Nat} (h : w.grownBy w' row) {f : Nat → Prop} (hf : ∀ k, row = some k → f k) : Chg w w' f :=
  ⟨h.os, h.tape, h.output, h.size, fun k hk hn => h.block k hk (fun e => hn (hf k e.symm))⟩
theorem Chg.trans {w w1 w2 : World} {f : Nat → Prop} (h : Chg w w1 f) (k : Chg w1 w2 f) : Chg w w2 f :=
  ⟨k.os.trans h.os, k.tape.trans h.tape, k.output.trans h.output, Nat.le_trans h.size k.size, fun i hi hn => (k.block i (Nat.lt_of_lt_of_le hi h.size) hn).trans (h.block i hi hn)⟩

/-- Below B all is as it was in w0; the assertions hold, each in blocks of its own from B on. -/
structure Hold (w0 : World) (B : Nat) (w : World) (L : List Asrt) : Prop where
  below : Below B w0 w
  le : B ≤ w.heap.size
  own : ∃ F : Nat → Nat → Prop, (∀ (i : Nat) (a : Asrt), L[i]? = some a → a.p w (F i)) ∧ (∀ i k, F i k → B ≤ k ∧ k < w.heap.size) ∧ (∀ i j k, F i k → F j k → i = j)

section
variable {w0 w w' : World} {B : Nat} {L : List Asrt}
theorem Hold.start (w : World) : Hold w w.heap.size w [] := ⟨Below.refl _ _, Nat.le_refl _, fun _ _ => False, fun i a h => by simp at h, fun _ _ h => h.elim, fun _ _ _ h => h.elim⟩
theorem Hold.below_of_chg (hS : Hold w0 B w L) {f : Nat → Prop} (hc : Chg w w' f) (hf : ∀ k, f k → B ≤ k) : Below B w0 w' :=
  hS.below.trans ⟨hc.os, hc.tape, hc.output, hc.size, fun k hk => hc.block k (Nat.lt_of_lt_of_le hk hS.le) (fun h => by have := hf k h; omega)⟩
/-- Assertion i becomes another one. -/
theorem Hold.upd (hS : Hold w0 B w L) (i : Nat) {a a' : Asrt} (hi : L[i]? = some a)
    (H : ∀ f : Nat → Prop, a.p w f → ∃ f' : Nat → Prop, a'.p w' f' ∧ (∀ k, f' k → f k ∨ w.heap.size ≤ k) ∧ Chg w w' f) : Hold w0 B w' (L.set i a') := by
  obtain ⟨F, h1, h2, h3⟩ := hS.own
  obtain ⟨f', hp, hf', hc⟩ := H (F i) (h1 i a hi)
  have hlt : i < L.length := (List.getElem?_eq_some_iff.1 hi).1
  refine ⟨hS.below_of_chg hc (fun k hk => (h2 i k hk).1), Nat.le_trans hS.le hc.size, fun j => if j = i then (fun k => f' k ∧ k < w'.heap.size) else F j, ?_, ?_, ?_⟩
  · intro j b hj
    rw [List.getElem?_set] at hj
    by_cases e : i = j
    · subst e
      rw [if_pos rfl, if_pos hlt] at hj
      injection hj with hj
      subst hj
      simp only [if_true]
      exact a'.bnd hp
    · rw [if_neg e] at hj
      have e' : ¬ j = i := fun h => e h.symm
      simp only [if_neg e']
      refine b.loc (h1 j b hj) (fun k hk hks => hc.block k hks (fun hki => e (h3 _ _ _ hki hk)))
  · intro j k hk
    by_cases e : j = i
    · simp only [if_pos e] at hk
      refine ⟨?_, hk.2⟩
      rcases hf' k hk.1 with h | h
      · exact (h2 i k h).1
      · exact Nat.le_trans hS.le h
    · simp only [if_neg e] at hk
      exact ⟨(h2 j k hk).1, Nat.lt_of_lt_of_le (h2 j k hk).2 hc.size⟩
  · intro j l k hj hl
    by_cases ej : j = i <;> by_cases el : l = i
    · rw [ej, el]
    · simp only [if_pos ej] at hj
      simp only [if_neg el] at hl
      rcases hf' k hj.1 with h | h
      · exact absurd (h3 _ _ _ hl h) el
      · have := (h2 l k hl).2; omega
    · simp only [if_neg ej] at hj
      simp only [if_pos el] at hl
      rcases hf' k hl.1 with h | h
      · exact absurd (h3 _ _ _ hj h) ej
      · have := (h2 j k hj).2; omega
    · simp only [if_neg ej] at hj
      simp only [if_neg el] at hl
      exact h3 _ _ _ hj hl
/-- Something new. -/
theorem Hold.push (hS : Hold w0 B w L) {a : Asrt} {f' : Nat → Prop} (hp : a.p w' f') (hf' : ∀ k, f' k → w.heap.size ≤ k) (hc : Chg w w' (fun _ => False)) : Hold w0 B w' (a :: L) := by
  obtain ⟨F, h1, h2, h3⟩ := hS.own
  refine ⟨hS.below_of_chg hc (fun k hk => hk.elim), Nat.le_trans hS.le hc.size, fun j => match j with | 0 => (fun k => f' k ∧ k < w'.heap.size) | j + 1 => F j, ?_, ?_, ?_⟩
  · intro j b hj
    cases j with
    | zero => simp at hj; subst hj; exact a.bnd hp
    | succ j => exact b.loc (h1 j b (by simpa using hj)) (fun k _ hks => hc.block k hks (fun h => h))
  · intro j k hk
    cases j with
    | zero => exact ⟨Nat.le_trans hS.le (hf' k hk.1), hk.2⟩
    | succ j => exact ⟨(h2 j k hk).1, Nat.lt_of_lt_of_le (h2 j k hk).2 hc.size⟩
  · intro j l k hj hl
    cases j <;> cases l
    · rfl
    · have := hf' k hj.1; have := (h2 _ k hl).2; omega
    · have := hf' k hl.1; have := (h2 _ k hj).2; omega
    · rw [h3 _ _ _ hj hl]
theorem Hold.keep (hS : Hold w0 B w L) (hc : Chg w w' (fun _ => False)) : Hold w0 B w' L := by
  obtain ⟨F, h1, h2, h3⟩ := hS.own
  exact ⟨hS.below_of_chg hc (fun k hk => hk.elim), Nat.le_trans hS.le hc.size, F, fun j b hj => b.loc (h1 j b hj) (fun k _ hks => hc.block k hks (fun h => h)), fun j k hk => ⟨(h2 j k hk).1, Nat.lt_of_lt_of_le (h2 j k hk).2 hc.size⟩, h3⟩
theorem Hold.drew (hS : Hold w0 B w L) : Hold w0 B w.drew L := hS.keep ⟨rfl, rfl, rfl, Nat.le_refl _, fun _ _ _ => rfl⟩
theorem Hold.drewN (hS : Hold w0 B w L) (n : Nat) : Hold w0 B (w.drewN n) L := hS.keep ⟨rfl, rfl, rfl, Nat.le_refl _, fun _ _ _ => rfl⟩
theorem Hold.of_below (hS : Hold w0 B w L) (h : Below w.heap.size w w') : Hold w0 B w' L := hS.keep (Chg.of_below h _)
/-- A new block that nobody will ask for. -/
theorem Hold.alloc_ (hS : Hold w0 B w L) (o : Obj) : Hold w0 B (w.alloc o) L := hS.keep ⟨rfl, rfl, rfl, by simp, fun k hk _ => Below.heap_alloc _ _ _ hk⟩
theorem Hold.alloc (hS : Hold w0 B w L) (o : Obj) : Hold w0 B (w.alloc o) (.blk w.heap.size o :: L) :=
  hS.push (f' := fun k => k = w.heap.size) ⟨rfl, blk_new w o⟩ (fun k hk => by omega) ⟨rfl, rfl, rfl, by simp, fun k hk _ => Below.heap_alloc _ _ _ hk⟩
/-- Some of them, in another order. -/
theorem Hold.pick (hS : Hold w0 B w L) (σ : List Nat) (hσ : σ.Nodup) {L' : List Asrt} (h : L'.map some = σ.map (fun i => L[i]?)) : Hold w0 B w L' := by
  obtain ⟨F, h1, h2, h3⟩ := hS.own
  have hlen : L'.length = σ.length := by simpa using congrArg List.length h
  refine ⟨hS.below, hS.le, fun j => match σ[j]? with | some i => F i | none => fun _ => False, ?_, ?_, ?_⟩
  · intro j b hj
    have e : (σ.map (fun i => L[i]?))[j]? = some (some b) := by rw [← h]; simp [hj]
    rw [List.getElem?_map] at e
    cases hs : σ[j]? with
    | none => rw [hs] at e; simp at e
    | some i => rw [hs] at e; simp only [hs]; exact h1 i b (by simpa using e)
  · intro j k hk
    cases hs : σ[j]? with
    | none => rw [hs] at hk; exact hk.elim
    | some i => rw [hs] at hk; exact h2 i k hk
  · intro j l k hj hl
    cases hs : σ[j]? with
    | none => rw [hs] at hj; exact hj.elim
    | some i =>
      cases ht : σ[l]? with
      | none => rw [ht] at hl; exact hl.elim
      | some m =>
        rw [hs] at hj
        rw [ht] at hl
        have : i = m := h3 _ _ _ hj hl
        subst this
        have a1 := List.getElem?_eq_some_iff.1 hs
        have a2 := List.getElem?_eq_some_iff.1 ht
        obtain ⟨b1, c1⟩ := a1
        obtain ⟨b2, c2⟩ := a2
        exact (List.getElem_inj hσ).1 (c1.trans c2.symm)
theorem Hold.tail {a : Asrt} (hS : Hold w0 B w (a :: L)) : Hold w0 B w L := by
  obtain ⟨F, h1, h2, h3⟩ := hS.own
  exact ⟨hS.below, hS.le, fun j => F (j + 1), fun j b hj => h1 (j + 1) b (by simpa using hj), fun j k hk => h2 _ k hk, fun i j k hi hj => by have := h3 _ _ _ hi hj; omega⟩
theorem Hold.get (hS : Hold w0 B w L) (i : Nat) {a : Asrt} (hi : L[i]? = some a) : ∃ f : Nat → Prop, a.p w f ∧ ∀ k, f k → B ≤ k ∧ k < w.heap.size := by
  obtain ⟨F, h1, h2, _⟩ := hS.own
  exact ⟨F i, h1 i a hi, h2 i⟩
/-- What the printed contracts leave: a row that is new since w. -/
theorem Hold.new {α : Type} {d : Kd α} {e : Nat} {ok : Nat → Prop} {v : Value} {xs : List α} (hS : Hold w0 B w L) (hR : d.R e w' w.heap.size ok v xs) (hb : Below w.heap.size w w') : Hold w0 B w' (.row d e v xs :: L) :=
  hS.push (f' := fun k => w.heap.size ≤ k) (Kd.R_mono (Kd.R_lower (Kd.R_bound hR) (Nat.zero_le _)) (fun k hk => hk.2.1)) (fun k hk => hk) (Chg.of_below hb _)
theorem Hold.nil {α : Type} (d : Kd α) (e : Nat) (hS : Hold w0 B w L) : Hold w0 B w (.row d e (.slice none 0 0) [] :: L) :=
  hS.push (f' := fun _ => False) (Kd.R_nil d e w 0 _) (fun k hk => hk.elim) ⟨rfl, rfl, rfl, Nat.le_refl _, fun _ _ _ => rfl⟩
/-- What is read below B reads as it did. -/
theorem Hold.C {α : Type} {d : Kd α} {A : Option Addr} {n : Nat} {xs : List α} (hS : Hold w0 w0.heap.size w L) (h : d.C w0 A n xs) : d.C w A n xs := Kd.C_below h hS.below
theorem Hold.reads {α : Type} {d : Kd α} {e : Nat} {v : Value} {xs : List α} (hS : Hold w0 B w L) (i : Nat) (hi : L[i]? = some (.row d e v xs)) : ∃ A c, v = .slice A xs.length c ∧ xs.length ≤ c ∧ d.C w A xs.length xs := by
  obtain ⟨f, hp, _⟩ := hS.get i hi
  exact Kd.R_reads hp
theorem Hold.blk {g : Nat} {o : Obj} (hS : Hold w0 B w L) (i : Nat) (hi : L[i]? = some (.blk g o)) : w.heap[g]? = some o := by
  obtain ⟨f, hp, _⟩ := hS.get i hi
  exact hp.2
theorem Hold.blk_lt {g : Nat} {o : Obj} (hS : Hold w0 B w L) (i : Nat) (hi : L[i]? = some (.blk g o)) : g < w.heap.size := (Array.getElem?_eq_some_iff.1 (hS.blk i hi)).1
theorem Hold.blk_ge {g : Nat} {o : Obj} (hS : Hold w0 B w L) (i : Nat) (hi : L[i]? = some (.blk g o)) : B ≤ g := by
  obtain ⟨f, hp, hb⟩ := hS.get i hi
  exact (hb g hp.1).1
/-- A cell of a block, for the walk: what it holds, that it may be written, that its block is there. -/
theorem Hold.cell {g : Nat} {cs : Array Value} {t : Nat} (hS : Hold w0 B w L) (i : Nat) (hi : L[i]? = some (.blk g (.cells cs t (0, 0)))) (j : Nat) (hj : j < cs.size) :
    w.cell? ⟨g, j, none⟩ = some cs[j] ∧ w.frozen? ⟨g, j, none⟩ = false := by
  have h := hS.blk i hi
  constructor
  · simp [World.cell?, h, hj]
  · simp [World.frozen?, h]
/-- A store. -/
theorem Hold.store {g : Nat} {cs : Array Value} {t : Nat} {fr : Nat × Nat} (hS : Hold w0 B w L) (i : Nat) (hi : L[i]? = some (.blk g (.cells cs t fr))) (j : Nat) (u : Value) :
    Hold w0 B (w.setCell ⟨g, j, none⟩ u) (L.set i (.blk g (.cells (cs.setIfInBounds j u) t fr))) :=
  hS.upd i hi (fun f hp => ⟨f, ⟨hp.1, by
    have h := hp.2
    simp only [World.setCell, Array.getElem?_modify, if_true, h, Option.map_some]
    rfl⟩, fun k hk => .inl hk, ⟨rfl, rfl, rfl, by simp [World.setCell], fun k _ hn => Below.heap_setCell w ⟨g, j, none⟩ u k (fun e => hn (by have e' : k = g := e; rw [e']; exact hp.1))⟩⟩)
end
end Go.Proofs.YtldbelghobohiaaGreat
