/-
  Words of this session: the operations of a walk over 'Hold'. No program in sight.
-/
import Derived.Test.YtldbelghobohiaaGreatSep
namespace Go.Proofs.YtldbelghobohiaaGreat
open Go.RowKit Go.Proofs.YtldbelghobohiaaGreatW.PrintWords
set_option linter.unusedVariables false
set_option linter.unusedSimpArgs false

section
variable {w0 w : World} {B : Nat} {L : List Asrt}
theorem Hold.focus (hS : Hold w0 B w L) (i : Nat) {a : Asrt} (hi : L[i]? = some a) : ∃ f : Nat → Prop, a.p w f ∧ (∀ k, f k → B ≤ k ∧ k < w.heap.size) ∧
    ∀ (w' : World) (a' : Asrt) (f' : Nat → Prop), a'.p w' f' → (∀ k, f' k → f k ∨ w.heap.size ≤ k) → Chg w w' f → Hold w0 B w' (L.set i a') := by
  obtain ⟨F, h1, h2, h3⟩ := hS.own
  refine ⟨F i, h1 i a hi, h2 i, fun w' a' f' hp hf' hc => ?_⟩
  have hS' : Hold w0 B w L := ⟨hS.below, hS.le, F, h1, h2, h3⟩
  have hlt : i < L.length := (List.getElem?_eq_some_iff.1 hi).1
  refine ⟨hS'.below_of_chg hc (fun k hk => (h2 i k hk).1), Nat.le_trans hS.le hc.size, fun j => if j = i then (fun k => f' k ∧ k < w'.heap.size) else F j, ?_, ?_, ?_⟩
  · intro j b hj
    rw [List.getElem?_set] at hj
    by_cases e : i = j
    · subst e
      rw [if_pos rfl, if_pos hlt] at hj
      injection hj with hj
      subst hj
      simp only [if_true]
      exact a'.bnd hp
    · rw [if_neg e] at hj
      have e' : ¬ j = i := fun h => e h.symm
      simp only [if_neg e']
      exact b.loc (h1 j b hj) (fun k hk hks => hc.block k hks (fun hki => e (h3 _ _ _ hki hk)))
  · intro j k hk
    by_cases e : j = i
    · simp only [if_pos e] at hk
      refine ⟨?_, hk.2⟩
      rcases hf' k hk.1 with h | h
      · exact (h2 i k h).1
      · exact Nat.le_trans hS.le h
    · simp only [if_neg e] at hk
      exact ⟨(h2 j k hk).1, Nat.lt_of_lt_of_le (h2 j k hk).2 hc.size⟩
  · intro j l k hj hl
    by_cases ej : j = i <;> by_cases el : l = i
    · rw [ej, el]
    · simp only [if_pos ej] at hj
      simp only [if_neg el] at hl
      rcases hf' k hj.1 with h | h
      · exact absurd (h3 _ _ _ hl h) el
      · have := (h2 l k hl).2; omega
    · simp only [if_neg ej] at hj
      simp only [if_pos el] at hl
      rcases hf' k hl.1 with h | h
      · exact absurd (h3 _ _ _ hj h) ej
      · have := (h2 j k hj).2; omega
    · simp only [if_neg ej] at hj
      simp only [if_neg el] at hl
      exact h3 _ _ _ hj hl
/-- What a callee has made since w, beside what was held. -/
theorem Hold.app {w' : World} {M : List Asrt} (hS : Hold w0 B w L) (hN : Hold w w.heap.size w' M) : Hold w0 B w' (M ++ L) := by
  obtain ⟨F, h1, h2, h3⟩ := hS.own
  obtain ⟨G, g1, g2, g3⟩ := hN.own
  have hb := hN.below
  refine ⟨hS.below_of_chg (Chg.of_below hb (fun _ => False)) (fun k hk => hk.elim), Nat.le_trans hS.le hb.size, fun i => if i < M.length then G i else F (i - M.length), ?_, ?_, ?_⟩
  · intro i a hi
    by_cases e : i < M.length
    · simp only [if_pos e]
      exact g1 i a (by rwa [List.getElem?_append_left e] at hi)
    · simp only [if_neg e]
      rw [List.getElem?_append_right (by omega)] at hi
      exact a.loc (h1 _ a hi) (fun k _ hks => hb.block k hks)
  · intro i k hk
    by_cases e : i < M.length
    · simp only [if_pos e] at hk
      exact ⟨Nat.le_trans hS.le (g2 i k hk).1, (g2 i k hk).2⟩
    · simp only [if_neg e] at hk
      exact ⟨(h2 _ k hk).1, Nat.lt_of_lt_of_le (h2 _ k hk).2 hb.size⟩
  · intro i j k hi hj
    by_cases ei : i < M.length <;> by_cases ej : j < M.length
    · simp only [if_pos ei] at hi
      simp only [if_pos ej] at hj
      exact g3 _ _ _ hi hj
    · simp only [if_pos ei] at hi
      simp only [if_neg ej] at hj
      have := (g2 i k hi).1; have := (h2 _ k hj).2; omega
    · simp only [if_neg ei] at hi
      simp only [if_pos ej] at hj
      have := (g2 j k hj).1; have := (h2 _ k hi).2; omega
    · simp only [if_neg ei] at hi
      simp only [if_neg ej] at hj
      have := h3 _ _ _ hi hj; omega
/-- The cell of a variable of one cell, for the walk. -/
theorem Hold.cell1 {g t : Nat} {v : Value} (hS : Hold w0 B w L) (i : Nat) (hi : L[i]? = some (.blk g (.cells #[v] t (0, 0)))) : w.cell? ⟨g, 0, none⟩ = some v ∧ w.frozen? ⟨g, 0, none⟩ = false ∧ g < w.heap.size :=
  ⟨(hS.cell i hi 0 (by simp)).1, (hS.cell i hi 0 (by simp)).2, hS.blk_lt i hi⟩
theorem Hold.down (hS : Hold w0 B w L) : w0.heap.size ≤ w.heap.size := hS.below.size
/-- A block that holds just a row's cells, as a row. -/
theorem Hold.toRow {α : Type} {d : Kd α} {e g n c : Nat} {cs : Array Value} {xs : List α} (hS : Hold w0 B w L) (i : Nat) (hi : L[i]? = some (.blk g (.cells cs e (0, 0))))
    (hrep : Reps (d.M w 0 (fun _ => False)) d.sz xs (cs.toList.take (n * d.sz))) (hn : n = xs.length) (hnc : n ≤ c) (hc : c ≤ maxLen) (hsz : cs.size = c * d.sz) : Hold w0 B w (L.set i (.row d e (.slice (some ⟨g, 0, none⟩) n c) xs)) := by
  obtain ⟨f, hp, hb, hk⟩ := hS.focus i hi
  subst hn
  refine hk w _ f ?_ (fun k h => .inl h) ⟨rfl, rfl, rfl, Nat.le_refl _, fun _ _ _ => rfl⟩
  refine ⟨fun k h => ?_, cs.toList.take (xs.length * d.sz), ⟨?_, .inr ⟨g, c, cs, rfl, Nat.zero_le _, hp.2, hnc, hc, hsz, rfl⟩⟩, hrep.imp_ (fun _ _ h => d.M_mono (fun k hk => hk.elim) h)⟩
  · have : g = k := by simpa [Value.ownBlock] using h
    subst this
    exact hp.1
  · rw [hrep.1]
/-- A row as a block, if it is not nil. -/
theorem Hold.toBlk {α : Type} {enc : α → Value} {h1 : ∀ x, (enc x).oneCell' = true} {e : Nat} {v : Value} {xs : List α} (hS : Hold w0 B w L) (i : Nat) (hi : L[i]? = some (.row (Kd.scalar enc h1) e v xs)) (hne : xs ≠ []) :
    ∃ g c cs, v = .slice (some ⟨g, 0, none⟩) xs.length c ∧ xs.length ≤ c ∧ c ≤ maxLen ∧ cs.size = c ∧ cs.toList.take xs.length = xs.map enc ∧ Hold w0 B w (L.set i (.blk g (.cells cs e (0, 0)))) := by
  obtain ⟨f, hp, hb, hk⟩ := hS.focus i hi
  obtain ⟨h0, inner, ho, hr⟩ := hp
  have hin : inner = xs.map enc := by
    apply List.ext_getElem?
    intro j
    have hl := hr.1
    have h2 := hr.2
    simp only [Kd.scalar, Nat.mul_one] at hl h2
    rcases Nat.lt_or_ge j xs.length with hj | hj
    · have h3 := h2 j xs[j] (List.getElem?_eq_getElem hj)
      rw [List.getElem?_map, List.getElem?_eq_getElem hj, List.getElem?_eq_getElem (by omega)]
      have h4 : (List.take 1 (List.drop j inner)) = [inner[j]'(by omega)] := by
        rw [List.drop_eq_getElem_cons (by omega)]
        rfl
      rw [h4] at h3
      simpa using h3
    · rw [List.getElem?_map, List.getElem?_eq_none hj, List.getElem?_eq_none (by omega)]
      rfl
  rcases ho.2 with ⟨_, hn⟩ | ⟨g, cap, cur, rfl, _, hh, hnc, hcm, hcs, htake⟩
  · exact absurd (List.eq_nil_of_length_eq_zero hn) hne
  · refine ⟨g, cap, cur, rfl, hnc, hcm, by simpa [Kd.scalar] using hcs, ?_, hk w _ f ⟨h0 g (by simp [Value.ownBlock]), hh⟩ (fun k h => .inl h) ⟨rfl, rfl, rfl, Nat.le_refl _, fun _ _ _ => rfl⟩⟩
    rw [← hin, ← htake]
    simp [Kd.scalar]
/-- An element of a row of pairs. -/
theorem C2_get {α β : Type} {e1 : α → Value} {e2 : β → Value} {h1 : ∀ x, (e1 x).oneCell' = true} {h2 : ∀ x, (e2 x).oneCell' = true} {A : Option Addr} {n : Nat} {xs : List (α × β)} (h : (Kd.pair (Kd.scalar e1 h1) (Kd.scalar e2 h2)).C w A n xs) (k : Nat) (hk : k < xs.length) :
    ∃ ad, A = some ad ∧ w.cell? (ad.add (k * 2)) = some (e1 xs[k].1) ∧ w.cell? ⟨(ad.add (k * 2)).block, (ad.add (k * 2)).off + 1, none⟩ = some (e2 xs[k].2) := by
  obtain ⟨ad, c, e, hl, hK, hc⟩ := Kd.C_get h xs[k] (k : Int) (by omega) (by have := h.1; omega)
  simp only [Int.toNat_natCast, List.getD_eq_getElem?_getD, List.getElem?_eq_getElem hk, Option.getD_some] at hK hc
  obtain ⟨c0, c1, rfl, rfl, rfl⟩ := hK
  refine ⟨ad, e, hc 0 _ rfl, ?_⟩
  rw [← add_field _ _ 1 (by omega)]
  exact hc 1 _ rfl
theorem C1_get {α : Type} {e1 : α → Value} {h1 : ∀ x, (e1 x).oneCell' = true} {A : Option Addr} {n : Nat} {xs : List α} (h : (Kd.scalar e1 h1).C w A n xs) (k : Nat) (hk : k < xs.length) :
    ∃ ad, A = some ad ∧ w.cell? (ad.add k) = some (e1 xs[k]) := by
  obtain ⟨ad, c, e, hl, hK, hc⟩ := Kd.C_get h xs[k] (k : Int) (by omega) (by have := h.1; omega)
  simp only [Int.toNat_natCast, List.getD_eq_getElem?_getD, List.getElem?_eq_getElem hk, Option.getD_some] at hK hc
  refine ⟨ad, e, ?_⟩
  have hK' : c = [e1 xs[k]] := hK
  subst hK'
  have := hc 0 _ rfl
  simpa [Kd.scalar] using this
theorem reps_scalar {α : Type} {enc : α → Value} {h1 : ∀ x, (enc x).oneCell' = true} (w : World) (b : Nat) (ok : Nat → Prop) (xs : List α) : Reps ((Kd.scalar enc h1).M w b ok) (Kd.scalar enc h1).sz xs (xs.map enc) := by
  refine ⟨by simp [Kd.scalar], fun j p hj => ?_⟩
  have hlt := (List.getElem?_eq_some_iff.1 hj).1
  have hp := (List.getElem?_eq_some_iff.1 hj).2
  simp only [Kd.scalar, Nat.mul_one]
  rw [List.drop_eq_getElem_cons (by simpa using hlt)]
  simp [hp]
theorem reps_cons {α : Type} {R : α → List Value → Prop} {size : Nat} {p : α} {ps : List α} {c cs : List Value} (hp : R p c) (hc : c.length = size) (h : Reps R size ps cs) : Reps R size (p :: ps) (c ++ cs) := by
  refine ⟨by rw [List.length_append, h.1, hc, List.length_cons, Nat.succ_mul, Nat.add_comm], fun j q hj => ?_⟩
  cases j with
  | zero =>
    have : p = q := by simpa using hj
    subst this
    rw [Nat.zero_mul, List.drop_zero, ← hc, List.take_left]
    exact hp
  | succ j =>
    have h2 := h.2 j q (by simpa using hj)
    rw [Nat.succ_mul, Nat.add_comm, ← List.drop_drop, ← hc, List.drop_left, hc]
    exact h2
theorem reps_pair {α β : Type} {e1 : α → Value} {e2 : β → Value} {h1 : ∀ x, (e1 x).oneCell' = true} {h2 : ∀ x, (e2 x).oneCell' = true} (w : World) (b : Nat) (ok : Nat → Prop) :
    ∀ xs : List (α × β), Reps ((Kd.pair (Kd.scalar e1 h1) (Kd.scalar e2 h2)).M w b ok) (Kd.pair (Kd.scalar e1 h1) (Kd.scalar e2 h2)).sz xs (xs.flatMap fun x => [e1 x.1, e2 x.2])
  | [] => Reps.none _ _
  | x :: r => by
    rw [List.flatMap_cons]
    exact reps_cons ⟨[e1 x.1], [e2 x.2], rfl, rfl, rfl⟩ rfl (reps_pair w b ok r)
/-- A literal row, read. -/
theorem C_lit {α : Type} {d : Kd α} (w : World) (e g : Nat) (hg : w.heap.size = g) (xs : List α) (cs : Array Value) (hrep : Reps (d.M (w.alloc (.cells cs e)) 0 (fun _ => False)) d.sz xs cs.toList) (hm : xs.length ≤ maxLen) : d.C (w.alloc (.cells cs e)) (some ⟨g, 0, none⟩) xs.length xs := by
  subst hg
  have h := ((Hold.start w).alloc (.cells cs e)).toRow 0 (d := d) (n := xs.length) (c := xs.length) (xs := xs) rfl (by rw [← hrep.1, List.take_length]; exact hrep) rfl (Nat.le_refl _) hm (by rw [← hrep.1]; simp)
  obtain ⟨A, c, he, _, hC⟩ := h.reads 0 rfl
  injection he with he
  subst he
  exact hC
theorem C1_lit {α : Type} {enc : α → Value} {h1 : ∀ x, (enc x).oneCell' = true} (w : World) (e g : Nat) (hg : w.heap.size = g) (xs : List α) (hm : xs.length ≤ maxLen) : (Kd.scalar enc h1).C (w.alloc (.cells (xs.map enc).toArray e)) (some ⟨g, 0, none⟩) xs.length xs :=
  C_lit w e g hg xs _ (reps_scalar _ _ _ xs) hm

/-- A row that is not empty: where it stands. -/
theorem Hold.form {α : Type} {d : Kd α} {e : Nat} {v : Value} {xs : List α} (hS : Hold w0 B w L) (i : Nat) (hi : L[i]? = some (.row d e v xs)) (hne : 0 < xs.length) :
    ∃ g c, v = .slice (some ⟨g, 0, none⟩) xs.length c ∧ xs.length ≤ c ∧ g < w.heap.size ∧ B ≤ g ∧ ∀ o, w.frozen? ⟨g, o, none⟩ = false := by
  obtain ⟨f, hp, hb⟩ := hS.get i hi
  obtain ⟨h0, inner, ho, hr⟩ := hp
  rcases ho.2 with ⟨_, hn⟩ | ⟨g, cap, cur, rfl, _, hh, hnc, hcm, hcs, htake⟩
  · omega
  · have hg := hb g (h0 g (by simp [Value.ownBlock]))
    exact ⟨g, cap, rfl, hnc, hg.2, hg.1, fun o => by simp [World.frozen?, hh]⟩
theorem setCells_one (w : World) (g o : Nat) (u : Value) : w.setCells g o [u] = w.setCell ⟨g, o, none⟩ u := rfl
/-- A store into a cell of a row. -/
theorem Hold.setCell {α : Type} {d : Kd α} {e g n cap : Nat} {xs : List α} (hS : Hold w0 B w L) (i : Nat) (hi : L[i]? = some (.row d e (.slice (some ⟨g, 0, none⟩) n cap) xs)) (k j : Nat) (hk : k < n) (u : Value) (x' : α) (hj : j < d.sz)
    (c : List Value) (hcl : c.length = d.sz) (hcc : ∀ j u, c[j]? = some u → w.cell? ⟨g, k * d.sz + j, none⟩ = some u) (hM : d.M w 0 (fun _ => False) x' (c.set j u)) :
    Hold w0 B (w.setCell ⟨g, k * d.sz + j, none⟩ u) (L.set i (.row d e (.slice (some ⟨g, 0, none⟩) n cap) (xs.set k x'))) := by
  obtain ⟨f, hp, hb, hF⟩ := hS.focus i hi
  have hseg : c.take j ++ [u] ++ c.drop (j + 1) = c.set j u := by
    rw [List.set_eq_take_append_cons_drop, if_pos (by omega)]
    simp
  have h := Kd.R_seg hp (k : Int) (by omega) (by omega) (c := c) (seg := [u]) (j := j) hcl hcc (show j + [u].length ≤ d.sz from hj) (okp := fun _ => False) (x' := x') (by
    show d.M w 0 _ x' (c.take j ++ [u] ++ c.drop (j + [u].length))
    rw [show j + [u].length = j + 1 from rfl, hseg]
    exact hM) (fun _ h => h.elim)
  simp only [Int.toNat_natCast] at h
  rw [setCells_one] at h
  exact hF _ _ f h.1 (fun k h => .inl h) (Chg.of_grown h.2 (fun k e => by injection e with e; subst e; exact hp.1 _ (by simp [Value.ownBlock])))
/-- The same where an element is one cell. -/
theorem Hold.setCell1 {α : Type} {enc : α → Value} {h1 : ∀ x, (enc x).oneCell' = true} {e g n cap : Nat} {xs : List α} (hS : Hold w0 B w L) (i : Nat) (hi : L[i]? = some (.row (Kd.scalar enc h1) e (.slice (some ⟨g, 0, none⟩) n cap) xs)) (k : Nat) (hk : k < n) (x' : α) :
    Hold w0 B (w.setCell ⟨g, k, none⟩ (enc x')) (L.set i (.row (Kd.scalar enc h1) e (.slice (some ⟨g, 0, none⟩) n cap) (xs.set k x'))) := by
  obtain ⟨A, c, he, _, hC⟩ := hS.reads i hi
  injection he with hA hn hc
  subst hA
  subst hn
  obtain ⟨ad, hA, hcell⟩ := C1_get hC k hk
  injection hA with hA
  subst hA
  rw [add_plain] at hcell
  have h := hS.setCell i hi k 0 hk (enc x') x' (show 0 < 1 from Nat.one_pos) [enc xs[k]] rfl (by
    intro j u hu
    cases j with
    | zero =>
      have : enc xs[k] = u := by simpa using hu
      subst this
      show w.cell? ⟨g, k * 1 + 0, none⟩ = _
      rw [Nat.mul_one, Nat.add_zero]
      exact hcell
    | succ j => simp at hu) rfl
  have e1 : k * (Kd.scalar enc h1).sz + 0 = k := by show k * 1 + 0 = k; omega
  rw [e1] at h
  exact h
/-- An element of a row of one's own, for the walk. -/
theorem Hold.at1 {α : Type} {enc : α → Value} {h1 : ∀ x, (enc x).oneCell' = true} {e g n cap : Nat} {xs : List α} (hS : Hold w0 B w L) (i : Nat) (hi : L[i]? = some (.row (Kd.scalar enc h1) e (.slice (some ⟨g, 0, none⟩) n cap) xs)) (k : Nat) (hk : k < xs.length) : w.cell? ⟨g, k, none⟩ = some (enc xs[k]) := by
  obtain ⟨A, c, he, _, hC⟩ := hS.reads i hi
  injection he with hA hn hc
  subst hA
  subst hn
  obtain ⟨ad, hA, hcell⟩ := C1_get hC k hk
  injection hA with hA
  subst hA
  rwa [add_plain] at hcell
theorem Hold.at2 {α β : Type} {e1 : α → Value} {e2 : β → Value} {h1 : ∀ x, (e1 x).oneCell' = true} {h2 : ∀ x, (e2 x).oneCell' = true} {e g n cap : Nat} {xs : List (α × β)} (hS : Hold w0 B w L) (i : Nat) (hi : L[i]? = some (.row (Kd.pair (Kd.scalar e1 h1) (Kd.scalar e2 h2)) e (.slice (some ⟨g, 0, none⟩) n cap) xs)) (k : Nat) (hk : k < xs.length) :
    w.cell? ⟨g, k * 2, none⟩ = some (e1 xs[k].1) ∧ w.cell? ⟨g, k * 2 + 1, none⟩ = some (e2 xs[k].2) := by
  obtain ⟨A, c, he, _, hC⟩ := hS.reads i hi
  injection he with hA hn hc
  subst hA
  subst hn
  obtain ⟨ad, hA, hc1, hc2⟩ := C2_get hC k hk
  injection hA with hA
  subst hA
  rw [add_plain] at hc1 hc2
  exact ⟨hc1, hc2⟩

theorem splice_take {β : Type} (l Y : List β) (off k n : Nat) (hY : Y.length = k) (h : off + k ≤ n) (hn : n ≤ l.length) : (l.take off ++ Y ++ l.drop (off + k)).take n = (l.take n).take off ++ Y ++ (l.take n).drop (off + k) := by
  have hA : (l.take off ++ Y).length = off + k := by rw [List.length_append, List.length_take, hY]; omega
  rw [List.take_append, hA, List.take_of_length_le (by omega), List.take_take, Nat.min_eq_left (by omega), List.drop_take]
/-- A row as the block that it lies in. -/
theorem Hold.rowOpen {α : Type} {enc : α → Value} {h1 : ∀ x, (enc x).oneCell' = true} {e g n cap : Nat} {xs : List α} (hS : Hold w0 B w L) (i : Nat) (hi : L[i]? = some (.row (Kd.scalar enc h1) e (.slice (some ⟨g, 0, none⟩) n cap) xs)) :
    ∃ cs : Array Value, cs.size = cap ∧ n ≤ cap ∧ cap ≤ maxLen ∧ cs.toList.take n = xs.map enc ∧ xs.length = n ∧ Hold w0 B w (L.set i (.blk g (.cells cs e (0, 0)))) := by
  obtain ⟨A, c, he, _, _⟩ := hS.reads i hi
  injection he with _ hn hc
  subst hn
  rcases Nat.eq_zero_or_pos xs.length with hz | hp
  · obtain ⟨f, hp, hb, hk⟩ := hS.focus i hi
    obtain ⟨h0, inner, ho, hr⟩ := hp
    rcases ho.2 with ⟨hv, _⟩ | ⟨g', cap', cur, hv, _, hh, hnc, hcm, hcs, htake⟩
    · cases hv
    · injection hv with ha _ hc
      injection ha with ha
      injection ha with hg
      subst hg; subst hc
      have hxs : xs = [] := List.eq_nil_of_length_eq_zero hz
      subst hxs
      exact ⟨cur, by simpa [Kd.scalar] using hcs, hnc, hcm, by simp, rfl, hk w _ f ⟨h0 g (by simp [Value.ownBlock]), hh⟩ (fun k h => .inl h) ⟨rfl, rfl, rfl, Nat.le_refl _, fun _ _ _ => rfl⟩⟩
  · obtain ⟨g', c', cs, hv, h2, h3, h4, h5, h6⟩ := hS.toBlk i hi (by rintro rfl; simp at hp)
    injection hv with ha _ hc
    injection ha with ha
    injection ha with hg
    subst hg; subst hc
    exact ⟨cs, h4, h2, h3, h5, rfl, h6⟩
theorem Hold.blkRow {α : Type} {enc : α → Value} {h1 : ∀ x, (enc x).oneCell' = true} {e g n cap : Nat} {cs : Array Value} {xs : List α} (hS : Hold w0 B w L) (i : Nat) (hi : L[i]? = some (.blk g (.cells cs e (0, 0)))) (hsz : cs.size = cap) (hnc : n ≤ cap) (hc : cap ≤ maxLen) (ht : cs.toList.take n = xs.map enc) (hn : n = xs.length) :
    Hold w0 B w (L.set i (.row (Kd.scalar enc h1) e (.slice (some ⟨g, 0, none⟩) n cap) xs)) :=
  hS.toRow i hi (by
    have e1 : n * (Kd.scalar enc h1).sz = n := Nat.mul_one n
    rw [e1, ht]
    exact reps_scalar _ _ _ _) hn hnc hc (by rw [hsz]; exact (Nat.mul_one cap).symm)
theorem list_set_set {L : List Asrt} {i : Nat} {a b : Asrt} : (L.set i a).set i b = L.set i b := List.set_set ..
theorem list_set_at {L : List Asrt} {i : Nat} {a b : Asrt} (hi : L[i]? = some b) : (L.set i a)[i]? = some a := by
  rw [List.getElem?_set, if_pos rfl, if_pos (List.getElem?_eq_some_iff.1 hi).1]
/-- A block's cells, all anew. -/
theorem Hold.setRow {g t : Nat} {cs cs' : Array Value} (hS : Hold w0 B w L) (i : Nat) (hi : L[i]? = some (.blk g (.cells cs t (0, 0)))) : Hold w0 B (w.setRow g cs') (L.set i (.blk g (.cells cs' t (0, 0)))) :=
  hS.upd i hi (fun f hp => ⟨f, ⟨hp.1, setRow_heap w g cs _ t _ hp.2⟩, fun k hk => .inl hk, ⟨rfl, rfl, rfl, by simp [World.setRow], fun k _ hn => setRow_other w g k _ (fun e => hn (by rw [e]; exact hp.1))⟩⟩)
end

section
variable {P : Program} {ops : Array Oper} {rest : List Oper} {o : Oper} {a : Act} {Q : Exit → Act → World → Prop} {α : Type} {w0 W : World} {B : Nat} {L : List Asrt}
/-- Is it this operation that stands next? -/
theorem at_bi {b : Builtin} {xs : Array Operand} {ts : Array TypeId} (_ho : o.op = .call { callee := .builtin b, args := xs, argTypes := ts }) (h : wpList P ops Q (o :: rest) a W) : wpList P ops Q (o :: rest) a W := h
theorem at_dst {N : Tmp} (_hN : o.dst = some N) (h : wpList P ops Q (o :: rest) a W) : wpList P ops Q (o :: rest) a W := h
/-- append(v, x), x of one kind that leads to no row. -/
theorem Hold.append1 (d : Kd α) (i : Nat) (hS : Hold w0 B W L) {e : Nat} {v : Value} {xs : List α} (hi : L[i]? = some (.row d e v xs)) (hgd : o.guard = none) (s x : Operand) (t : TypeId) (z : Value) (bytes : Nat)
    (ho : o.op = .call { callee := .builtin .append, args := #[s, x], argTypes := #[t, t] })
    (ht : P.underlying t = some (.slice e)) (hinfo : (P.info? e).map (fun i => (i.zero, i.size, i.bytes)) = some (some z, d.sz, bytes)) (hz : z.cells.size = d.sz) (hs0 : 0 < d.sz) (hb0 : 0 < bytes)
    (p : α) (cs : List Value) (hs : a.eval s = v) (hx : a.eval x = .slice (some ⟨W.heap.size, 0, none⟩) 1 1) (hp : d.M W 0 (fun _ => False) p cs) (hl : (xs.length + 1) * bytes ≤ 140737488355328)
    (h : ∀ v1 w1, Hold w0 B w1 (L.set i (.row d e v1 (xs ++ [p]))) → wpList P ops Q rest (a.put o.dst v1) w1) : wpList P ops Q (o :: rest) a (W.alloc (.cells cs.toArray e)) := by
  obtain ⟨f, hR, hb, hk⟩ := hS.focus i hi
  refine Kd.R_append d (w0 := W) 0 hgd s x t e z bytes ho ht hinfo hz hs0 hb0 v xs p cs (fun k => f k ∨ W.heap.size ≤ k) (fun _ => False) hs hx hp (fun _ h => h.elim) (fun k h => .inr h) (Kd.R_mono hR (fun k h => .inl h)) (Below.refl _ _) (Nat.zero_le _) hl ?_
  intro v1 w1 ho1 hb1 hg hat
  exact h v1 w1 (hk w1 _ _ ho1 (fun k h => h) (Chg.of_grown hg (fun k e => hR.1 k e)))
/-- append(v, ys...), of a kind that leads to no row. -/
theorem Hold.appendRow {enc : α → Value} {h1 : ∀ x, (enc x).oneCell' = true} (i : Nat) (hS : Hold w0 B W L) {e : Nat} {v : Value} {xs ys : List α} (hi : L[i]? = some (.row (Kd.scalar enc h1) e v xs)) (hgd : o.guard = none) (s x : Operand) (t : TypeId) (z : Value) (bytes : Nat)
    (ho : o.op = .call { callee := .builtin .append, args := #[s, x], argTypes := #[t, t] })
    (ht : P.underlying t = some (.slice e)) (hinfo : (P.info? e).map (fun i => (i.zero, i.size, i.bytes)) = some (some z, 1, bytes)) (hz : z.cells.size = 1) (hb0 : 0 < bytes)
    (A : Option Addr) (m c : Nat) (hs : a.eval s = v) (hx : a.eval x = .slice A m c) (hC : (Kd.scalar enc h1).C W A m ys) (hl : (xs.length + m) * bytes ≤ 140737488355328)
    (h : ∀ v1 w1, Hold w0 B w1 (L.set i (.row (Kd.scalar enc h1) e v1 (xs ++ ys))) → wpList P ops Q rest (a.put o.dst v1) w1) : wpList P ops Q (o :: rest) a W := by
  obtain ⟨f, hR, hb, hk⟩ := hS.focus i hi
  refine Kd.R_append_rows (Kd.scalar enc h1) (w0 := W) 0 hgd s x t e z bytes ho ht hinfo hz (show 0 < 1 from Nat.one_pos) hb0 v xs ys A m c (fun k => f k ∨ W.heap.size ≤ k) (fun _ => False) hs hx (Kd.R_mono hR (fun k h => .inl h)) hC (fun _ _ h => h) (fun _ h => h.elim) (fun k h => .inr h) (Below.refl _ _) (Nat.zero_le _) hl ?_
  intro v1 w1 ho1 hb1 hg hat
  exact h v1 w1 (hk w1 _ _ ho1 (fun k h => h) (Chg.of_grown hg (fun k e => hR.1 k e)))
/-- The same for elements of several cells. -/
theorem Hold.appendRowG (d : Kd α) (i : Nat) (hS : Hold w0 B W L) {e : Nat} {v : Value} {xs ys : List α} (hi : L[i]? = some (.row d e v xs)) (hgd : o.guard = none) (s x : Operand) (t : TypeId) (z : Value) (bytes : Nat)
    (ho : o.op = .call { callee := .builtin .append, args := #[s, x], argTypes := #[t, t] })
    (ht : P.underlying t = some (.slice e)) (hinfo : (P.info? e).map (fun i => (i.zero, i.size, i.bytes)) = some (some z, d.sz, bytes)) (hz : z.cells.size = d.sz) (hs0 : 0 < d.sz) (hb0 : 0 < bytes)
    (A : Option Addr) (m c : Nat) (hs : a.eval s = v) (hx : a.eval x = .slice A m c) (hC : d.C W A m ys) (hKM : ∀ x cs, d.K W x cs → d.M W 0 (fun _ => False) x cs) (hl : (xs.length + m) * bytes ≤ 140737488355328)
    (h : ∀ v1 w1, Hold w0 B w1 (L.set i (.row d e v1 (xs ++ ys))) → wpList P ops Q rest (a.put o.dst v1) w1) : wpList P ops Q (o :: rest) a W := by
  obtain ⟨f, hR, hb, hk⟩ := hS.focus i hi
  refine Kd.R_append_rows d (w0 := W) 0 hgd s x t e z bytes ho ht hinfo hz hs0 hb0 v xs ys A m c (fun k => f k ∨ W.heap.size ≤ k) (fun _ => False) hs hx (Kd.R_mono hR (fun k h => .inl h)) hC hKM (fun _ h => h.elim) (fun k h => .inr h) (Below.refl _ _) (Nat.zero_le _) hl ?_
  intro v1 w1 ho1 hb1 hg hat
  exact h v1 w1 (hk w1 _ _ ho1 (fun k h => h) (Chg.of_grown hg (fun k e => hR.1 k e)))
/-- copy(dst, src): dst a part of a row of one's own, or empty. -/
theorem Hold.copy {enc : α → Value} {h1 : ∀ x, (enc x).oneCell' = true} (i : Nat) (hS : Hold w0 B W L) {e : Nat} {v : Value} {xs ys : List α} (hi : L[i]? = some (.row (Kd.scalar enc h1) e v xs)) (hgd : o.guard = none) (d s : Operand) (dT sT : TypeId)
    (ho : o.op = .call { callee := .builtin .copy, args := #[d, s], argTypes := #[dT, sT] }) (hu : P.underlying dT = some (.slice e)) (hsz : (P.info? e).map (·.size) = some 1)
    (off : Nat) (D A : Option Addr) (dLen dCap m c : Nat) (hd : a.eval d = .slice D dLen dCap) (hs : a.eval s = .slice A m c) (hC : (Kd.scalar enc h1).C W A m ys)
    (hD : 0 < dLen → ∃ g n cap, v = .slice (some ⟨g, 0, none⟩) n cap ∧ D = some ⟨g, off, none⟩) (hfit : off + dLen ≤ xs.length) (k : Nat) (hk : k = min m dLen)
    (h : ∀ w1, Hold w0 B w1 (L.set i (.row (Kd.scalar enc h1) e v (xs.take off ++ ys.take k ++ xs.drop (off + k)))) → wpList P ops Q rest (a.put o.dst (goInt k)) w1) : wpList P ops Q (o :: rest) a W := by
  have hml := hC.1
  refine wpList_plain hgd fun K hK => ?_
  unfold Oper.wp execOp
  simp only [ho, resolve, invoke, builtin, Sem.run_bind, Sem.run_pure, Result.andThen_ok, List.map_toArray, List.map_cons, List.map_nil, hd, hs]
  by_cases h0 : k = 0
  · subst h0
    rw [run_copy_none W dT sT o.type e D A dLen dCap m c hu hsz (by show min m dLen = 0; omega)]
    have hh := h W (by
      have e2 : xs.take off ++ ys.take 0 ++ xs.drop (off + 0) = xs := by simp
      rw [e2]
      have e3 : L.set i (.row (Kd.scalar enc h1) e v xs) = L := by
        apply List.ext_getElem?
        intro j
        rw [List.getElem?_set]
        split
        · rename_i ej; subst ej; rw [hi]; simp [(List.getElem?_eq_some_iff.1 hi).1]
        · rfl
      rw [e3]; exact hS)
    exact hK _ _ hh
  · obtain ⟨g, n, cap, rfl, rfl⟩ := hD (by omega)
    obtain ⟨cs, hsz', hnc, hcm, ht, hn, hB⟩ := hS.rowOpen i hi
    have hm0 : 0 < m := by omega
    obtain ⟨ad, rfl, hcell⟩ := hC.2.2 hm0
    have hg := hB.blk i (list_set_at hi)
    have hlen : (ys.take k |>.map enc).length = Nat.min m dLen := by simp [List.length_take]; show min k ys.length = min m dLen; omega
    rw [run_copy_row P W dT sT o.type e g off dLen dCap ad m c cs e ((ys.take k).map enc) hu hsz hg hlen (by
      intro j u hu
      rw [List.getElem?_map, List.getElem?_take] at hu
      split at hu
      · cases hy : ys[j]? with
        | none => rw [hy] at hu; simp at hu
        | some y =>
          rw [hy] at hu
          obtain rfl : enc y = u := by simpa using hu
          obtain ⟨c1, _, hc1, hc2⟩ := hcell j y hy
          have hc1' : c1 = [enc y] := hc1
          subst hc1'
          have := hc2 0 _ rfl
          simpa [Kd.scalar] using this
      · simp at hu) (by rw [hlen, hsz']; show off + min m dLen ≤ cap; omega) (by intro u hu; obtain ⟨y, _, rfl⟩ := List.mem_map.1 hu; exact h1 y)]
    have hkl : ((ys.take k).map enc).length = k := by rw [hlen]; exact hk.symm
    rw [hkl]
    have hR := hB.setRow (cs' := (cs.toList.take off ++ (ys.take k).map enc ++ cs.toList.drop (off + k)).toArray) i (list_set_at hi)
    rw [list_set_set] at hR
    have hR2 := hR.blkRow (enc := enc) (h1 := h1) (n := n) (cap := cap) (xs := xs.take off ++ ys.take k ++ xs.drop (off + k)) i (list_set_at hi) (by simp; omega) hnc hcm (by
      have e4 : xs.map enc = cs.toList.take n := ht.symm
      simp only [List.map_append, List.map_take, List.map_drop, e4]
      exact splice_take cs.toList _ off k n (by rw [← List.map_take]; exact hkl) (by omega) (by simp; omega)) (by simp; omega)
    rw [list_set_set] at hR2
    exact hK _ _ (h _ hR2)
/-- make([]T, n), of a kind that leads to no row. -/
theorem Hold.make {enc : α → Value} {h1 : ∀ x, (enc x).oneCell' = true} (hS : Hold w0 B W L) (e : Nat) (hgd : o.guard = none) {N : Tmp} (hd : o.dst = some N) (t : TypeId) (x y : Operand) (ho : o.op = .makeSlice t x y) (n : Int) (hx : a.eval x = .int .i64 n) (hy : a.eval y = .int .i64 n)
    (ht : P.underlying t = some (.slice e)) (z0 : α) (bytes : Nat) (hinfo : (P.info? e).map (fun i => (i.zero, i.size, i.bytes)) = some (some (enc z0), 1, bytes)) (hz : (enc z0).cells = #[enc z0]) (hb0 : 0 < bytes)
    (h0 : 0 ≤ n) (hl : n.toNat * bytes ≤ 281474976710656)
    (h : ∀ v1 w1, Hold w0 B w1 (.row (Kd.scalar enc h1) e v1 (List.replicate n.toNat z0) :: L) → wpList P ops Q rest (a.put o.dst v1) w1) : wpList P ops Q (o :: rest) a W := by
  refine Kd.R_make (Kd.scalar enc h1) (w0 := W) W.heap.size e hgd hd t x y ho n hx hy ht (enc z0) bytes hinfo (by rw [hz]; rfl) (show 0 < 1 from Nat.one_pos) hb0 z0 (ok := fun _ => True) (okp := fun _ => False) (by show (enc z0).cells.toList = [enc z0]; rw [hz]) (fun _ h => h.elim) trivial h0 hl (Below.refl _ _) (Nat.le_refl _) ?_
  intro v1 w1 hR hb hg hat
  exact h v1 w1 (hS.new hR hb)
/-- A literal of a kind that leads to no row. -/
theorem Hold.lit (d : Kd α) (hS : Hold w0 B W L) (e : Nat) (hgd : o.guard = none) {N : Tmp} (hd : o.dst = some N) {xs : List α} {inner : List Value}
    (hrun : (execOp a.eval o).run P W = .ok (.value (.slice (some ⟨W.heap.size, 0, none⟩) xs.length xs.length)) (W.alloc (.cells inner.toArray e)))
    (hrep : Reps (d.M W W.heap.size (fun _ => False)) d.sz xs inner) (hm : xs.length ≤ 9223372036854775807)
    (h : ∀ v1 w1, Hold w0 B w1 (.row d e v1 xs :: L) → wpList P ops Q rest (a.put o.dst v1) w1) : wpList P ops Q (o :: rest) a W := by
  refine Kd.R_lit d (w0 := W) W.heap.size e hgd hd (ok := fun _ => True) (okp := fun _ => False) hrun hrep (fun _ h => h.elim) trivial (Below.refl _ _) (Nat.le_refl _) hm ?_
  intro v1 w1 hR hb hg hat
  exact h v1 w1 (hS.new hR hb)
end
end Go.Proofs.YtldbelghobohiaaGreat
