/-
  The text of a header as the reference writes it, by a state: plain; what the reader makes of it. No program in sight.
-/
import Derived.Test.YtgldcjmdjhghpaaGreatDoorUr
namespace Go.Proofs.YtgldcjmdjhghpaaGreatDoor
open Go.RowKit Go.Proofs.YtgldcjmdjhghpaaGreatDoorW.PrintWords Go.ChangeShapes Go.WideShapes
set_option linter.unusedVariables false
set_option linter.unusedSimpArgs false
/-- The characters of a text. -/
noncomputable def runesOf (s : ByteArray) : List Nat := open Classical in if h : ∃ rs, (∀ c ∈ rs, RuneOk c) ∧ s.data.toList = encR rs then Classical.choose h else []
theorem runesOf_ok (s : ByteArray) : ∀ c ∈ runesOf s, RuneOk c := by
  unfold runesOf
  split
  · rename_i h
    exact (Classical.choose_spec h).1
  · intro c h; cases h
theorem runesOf_valid {s : ByteArray} (h : Lib.validD s.data.toList = true) : s.data.toList = encR (runesOf s) := by
  obtain ⟨rs, h1, h2⟩ := valid_runes h
  have hex : ∃ rs, (∀ c ∈ rs, RuneOk c) ∧ s.data.toList = encR rs := ⟨rs, h1, h2⟩
  unfold runesOf
  rw [dif_pos hex]
  exact (Classical.choose_spec hex).2
/-- Things one behind the other, with commas between. -/
def seqF {α : Type} (one : α → Nat → Bs × Nat) : Bool → List α → Nat → Bs × Nat
  | _, [], y => ([], y)
  | true, f :: r, y => ((one f y).1 ++ (seqF one false r (one f y).2).1, (seqF one false r (one f y).2).2)
  | false, f :: r, y => (44 :: ((blk y).1 ++ ((one f (blk y).2).1 ++ (seqF one false r (one f (blk y).2).2).1)), (seqF one false r (one f (blk y).2).2).2)
theorem seqF_false {α : Type} (one : α → Nat → Bs × Nat) (f : α) (r : List α) (y : Nat) : seqF one false (f :: r) y = (44 :: ((blk y).1 ++ (seqF one true (f :: r) (blk y).2).1), (seqF one true (f :: r) (blk y).2).2) := rfl
/-- Where each thing is what it should be, the whole is as many of them with commas between. -/
theorem seqF_commas {α β : Type} (one : α → Nat → Bs × Nat) (P : α → β → Bs → Prop) (hP : ∀ f y b, WSs b → ∃ x, P f x (b ++ (one f y).1)) :
    ∀ (l : List α) (y : Nat) (b : Bs), l ≠ [] → WSs b → ∃ us : List (β × Bs), b ++ (seqF one true l y).1 = commas (us.map (·.2)) ∧ us.length = l.length ∧ ∀ (i : Nat) (f : α) (u : β × Bs), l[i]? = some f → us[i]? = some u → P f u.1 u.2 := by
  intro l
  induction l with
  | nil => intro y b h; exact absurd rfl h
  | cons f r ih =>
    intro y b _ hb
    obtain ⟨x, hx⟩ := hP f y b hb
    cases r with
    | nil =>
      refine ⟨[(x, b ++ (one f y).1)], ?_, rfl, fun i f' u hi hu => ?_⟩
      · show b ++ ((one f y).1 ++ []) = b ++ (one f y).1
        rw [List.append_nil]
      · cases i with
        | zero =>
          injection hi with hi
          injection hu with hu
          subst hi; subst hu
          exact hx
        | succ i => simp at hi
    | cons f2 r2 =>
      obtain ⟨us, h1, h2, h3⟩ := ih (blk (one f y).2).2 (blk (one f y).2).1 (by simp) (blankF_ws _ _).1
      refine ⟨(x, b ++ (one f y).1) :: us, ?_, by simp [h2], fun i f' u hi hu => ?_⟩
      · have hne : ∃ u us', us = u :: us' := by
          cases us with
          | nil => simp at h2
          | cons u us' => exact ⟨u, us', rfl⟩
        obtain ⟨u, us', rfl⟩ := hne
        rw [List.map_cons, List.map_cons, commas_cons]
        rw [List.map_cons] at h1
        rw [← h1]
        show b ++ ((one f y).1 ++ (seqF one false (f2 :: r2) (one f y).2).1) = _
        rw [seqF_false, List.append_assoc]
      · cases i with
        | zero =>
          injection hi with hi
          injection hu with hu
          subst hi; subst hu
          exact hx
        | succ i =>
          rw [List.getElem?_cons_succ] at hi hu
          exact h3 i f' u hi hu
/-- A text in quotation marks. -/
noncomputable def quoF (s : ByteArray) (y : Nat) : Bs × Nat := (34 :: ((textF (runesOf s) y).1 ++ [34]), (textF (runesOf s) y).2)
/-- A field: name, kind, truth value, sign, number, text, list. -/
abbrev Hf := ByteArray × Int × Bool × Bool × Int × ByteArray × List ByteArray
/-- An item of a list, and the blanks behind it. -/
noncomputable def itemF (k4 : Bool) (s : ByteArray) (y : Nat) : Bs × Nat :=
  if k4 then ((quoF s y).1 ++ (blk (quoF s y).2).1, (blk (quoF s y).2).2) else (digF s.size ++ (blk y).1, (blk y).2)
noncomputable def listF (k4 : Bool) (l : List ByteArray) (y : Nat) : Bs × Nat := (91 :: ((blk y).1 ++ ((seqF (itemF k4) true l (blk y).2).1 ++ [93])), (seqF (itemF k4) true l (blk y).2).2)
/-- An object of one field. -/
noncomputable def nestF (s : ByteArray) (y : Nat) : Bs × Nat :=
  (123 :: ((blk y).1 ++ ((quoF s (blk y).2).1 ++ ((blk (quoF s (blk y).2).2).1 ++ 58 :: ((blk (blk (quoF s (blk y).2).2).2).1 ++ 49 :: ((blk (blk (blk (quoF s (blk y).2).2).2).2).1 ++ [125]))))), (blk (blk (blk (quoF s (blk y).2).2).2).2).2)
noncomputable def valF (f : Hf) (y : Nat) : Bs × Nat :=
  if f.2.1 = 0 then (wNULL, y)
  else if f.2.1 = 1 then (if f.2.2.1 then wTRUE else wFALSE, y)
  else if f.2.1 = 2 then ((if (f.2.2.2.1 && decide (0 < f.2.2.2.2.1)) = true then [45] else []) ++ digF f.2.2.2.2.1.toNat, y)
  else if f.2.1 = 3 then quoF f.2.2.2.2.2.1 y
  else if f.2.1 = 5 then nestF f.2.2.2.2.2.1 y
  else listF (decide (f.2.1 = 4)) f.2.2.2.2.2.2 y
/-- A field, and the blanks behind it. -/
noncomputable def fieldF (f : Hf) (y : Nat) : Bs × Nat :=
  ((quoF f.1 y).1 ++ ((blk (quoF f.1 y).2).1 ++ 58 :: ((blk (blk (quoF f.1 y).2).2).1 ++ ((valF f (blk (blk (quoF f.1 y).2).2).2).1 ++ (blk (valF f (blk (blk (quoF f.1 y).2).2).2).2).1))), (blk (valF f (blk (blk (quoF f.1 y).2).2).2).2).2)
/-- The text of a header. -/
noncomputable def headF (l : List Hf) (x : Nat) : Bs :=
  (blk x).1 ++ 123 :: ((blk (blk x).2).1 ++ ((seqF fieldF true l (blk (blk x).2).2).1 ++ 125 :: (blk (seqF fieldF true l (blk (blk x).2).2).2).1))
/-- What a field's value is to the reader. -/
def IsVal (f : Hf) (v : JV) : Prop :=
  if f.2.1 = 0 then v = .nul
  else if f.2.1 = 1 then v = if f.2.2.1 then .tru else .fls
  else if f.2.1 = 2 then v = .num ((if (f.2.2.2.1 && decide (0 < f.2.2.2.2.1)) = true then [45] else []) ++ digF f.2.2.2.2.1.toNat)
  else if f.2.1 = 3 then ∃ raw, v = .str raw ∧ Pieces raw (encR (runesOf f.2.2.2.2.2.1)) ∧ raw.length ≤ 12 * (runesOf f.2.2.2.2.2.1).length
  else if f.2.1 = 5 then ∃ kvs, v = .obj kvs
  else ∃ xs : List JV, v = .arr xs ∧ xs.length = f.2.2.2.2.2.2.length ∧ ∀ (i : Nat) (s : ByteArray) (x : JV), f.2.2.2.2.2.2[i]? = some s → xs[i]? = some x → if f.2.1 = 4 then ∃ raw, x = .str raw ∧ Pieces raw (encR (runesOf s)) ∧ raw.length ≤ 12 * (runesOf s).length else ∃ d, x = .num d
theorem blk_ws (y : Nat) : WSs (blk y).1 := (blankF_ws _ _).1
theorem quo_reads (s : ByteArray) (y : Nat) : Reads (.str (textF (runesOf s) y).1) (quoF s y).1 0 := reads_str (textF_pieces (runesOf_ok s) y)
theorem quo_hard (s : ByteArray) (y : Nat) : Hard (quoF s y).1 := .of _ rfl
theorem dig_hard {s : Bs} (h : Digits s) : Hard s := by
  obtain ⟨h0, h1⟩ := h
  cases s with
  | nil => exact absurd rfl h0
  | cons c q =>
    have hc := h1 c (List.mem_cons_self ..)
    refine ⟨c, q, rfl, ?_⟩
    unfold isWS
    simp [digit_ne hc 32 (.inl (by decide)), digit_ne hc 10 (.inl (by decide)), digit_ne hc 9 (.inl (by decide)), digit_ne hc 13 (.inl (by decide))]
theorem item_reads (k4 : Bool) (s : ByteArray) (y : Nat) (b : Bs) (hb : WSs b) :
    ∃ x : JV, (if k4 = true then ∃ raw, x = .str raw ∧ Pieces raw (encR (runesOf s)) ∧ raw.length ≤ 12 * (runesOf s).length else ∃ d, x = .num d) ∧ ReadsP x (b ++ (itemF k4 s y).1) 0 := by
  cases k4 with
  | true => exact ⟨.str (textF (runesOf s) y).1, ⟨_, rfl, textF_pieces (runesOf_ok s) y, textF_len _ _⟩, b, (quoF s y).1, (blk (quoF s y).2).1, by rw [List.append_assoc]; rfl, hb, blk_ws _, quo_hard s y, quo_reads s y⟩
  | false => exact ⟨.num (digF s.size), ⟨_, rfl⟩, b, digF s.size, (blk y).1, by rw [List.append_assoc]; rfl, hb, blk_ws _, dig_hard (digF_digits _), reads_num (digF_digits _) false⟩
theorem map_get {α β : Type} (us : List (α × β)) (i : Nat) (x : α) (h : (us.map (·.1))[i]? = some x) : ∃ u, us[i]? = some u ∧ u.1 = x := by
  rw [List.getElem?_map] at h
  cases hu : us[i]? with
  | none => rw [hu] at h; cases h
  | some u =>
    rw [hu] at h
    injection h with h
    exact ⟨u, rfl, h⟩
theorem list_reads (k4 : Bool) (l : List ByteArray) (y : Nat) :
    ∃ xs : List JV, xs.length = l.length ∧ (∀ (i : Nat) (s : ByteArray) (x : JV), l[i]? = some s → xs[i]? = some x → if k4 = true then ∃ raw, x = .str raw ∧ Pieces raw (encR (runesOf s)) ∧ raw.length ≤ 12 * (runesOf s).length else ∃ d, x = .num d) ∧ Reads (.arr xs) (listF k4 l y).1 1 := by
  by_cases h0 : l = []
  · subst h0
    refine ⟨[], rfl, fun i s x h => by simp at h, ?_⟩
    intro n d rest hr hn hd
    have := reads_arr0 (blk_ws y) n d rest hr (by simp [listF, seqF] at hn ⊢; omega) (by omega)
    unfold listF seqF
    simpa using this
  · obtain ⟨us, h1, h2, h3⟩ := seqF_commas (itemF k4) (fun s (x : JV) u => (if k4 = true then ∃ raw, x = .str raw ∧ Pieces raw (encR (runesOf s)) ∧ raw.length ≤ 12 * (runesOf s).length else ∃ d, x = .num d) ∧ ReadsP x u 0) (fun s y b hb => item_reads k4 s y b hb) l (blk y).2 (blk y).1 h0 (blk_ws y)
    have hus : us ≠ [] := by
      rintro rfl
      exact h0 (List.eq_nil_of_length_eq_zero (by rw [← h2]; rfl))
    refine ⟨us.map (·.1), by rw [List.length_map, h2], fun i s x hs hx => ?_, ?_⟩
    · obtain ⟨u, hu, rfl⟩ := map_get us i x hx
      exact (h3 i s u hs hu).1
    · have := reads_arr (dep := 0) (l := us) (fun p hp => by
        obtain ⟨i, hi, e⟩ := List.mem_iff_getElem.1 hp
        have hil : i < l.length := by omega
        have := (h3 i l[i] us[i] (List.getElem?_eq_getElem hil) (List.getElem?_eq_getElem hi)).2
        rw [e] at this
        exact this) hus (by omega)
      have e : (listF k4 l y).1 = 91 :: (commas (us.map (·.2)) ++ [93]) := by
        unfold listF
        rw [← h1, List.append_assoc]
      rw [e]
      exact this
theorem nest_reads (s : ByteArray) (y : Nat) : ∃ kvs, Reads (.obj kvs) (nestF s y).1 1 := by
  have h1 : ReadsP (.num [49]) ((blk (blk (quoF s (blk y).2).2).2).1 ++ 49 :: (blk (blk (blk (quoF s (blk y).2).2).2).2).1) 0 := by
    refine ⟨(blk (blk (quoF s (blk y).2).2).2).1, [49], (blk (blk (blk (quoF s (blk y).2).2).2).2).1, by simp, blk_ws _, blk_ws _, .of _ rfl, ?_⟩
    exact reads_num (s := [49]) ⟨by simp, by simp⟩ false
  have h2 := reads_obj (dep := 0) (l := [(((textF (runesOf s) (blk y).2).1, JV.num [49]), (blk y).1 ++ 34 :: ((textF (runesOf s) (blk y).2).1 ++ 34 :: ((blk (quoF s (blk y).2).2).1 ++ 58 :: ((blk (blk (quoF s (blk y).2).2).2).1 ++ 49 :: (blk (blk (blk (quoF s (blk y).2).2).2).2).1))))]) (fun p hp => by
    rw [List.mem_singleton] at hp
    subst hp
    exact ⟨_, _, _, _, rfl, blk_ws _, blk_ws _, textF_pieces (runesOf_ok s) _, h1⟩) (by simp)
  refine ⟨[((textF (runesOf s) (blk y).2).1, JV.num [49])], ?_⟩
  have e : (nestF s y).1 = 123 :: (commas [(blk y).1 ++ 34 :: ((textF (runesOf s) (blk y).2).1 ++ 34 :: ((blk (quoF s (blk y).2).2).1 ++ 58 :: ((blk (blk (quoF s (blk y).2).2).2).1 ++ 49 :: (blk (blk (blk (quoF s (blk y).2).2).2).2).1)))] ++ [125]) := by
    unfold nestF commas
    simp only [List.append_assoc, List.cons_append]
    show _ = _
    simp only [quoF, List.append_assoc, List.cons_append, List.nil_append]
  rw [e]
  exact h2
theorem Reads.deep {v : JV} {t : Bs} {d e : Nat} (h : Reads v t d) (hd : d ≤ e) : Reads v t e := fun n d' rest h1 h2 h3 => h n d' rest h1 h2 (by omega)
theorem val_reads (f : Hf) (y : Nat) : ∃ v, IsVal f v ∧ Hard (valF f y).1 ∧ Reads v (valF f y).1 1 := by
  unfold IsVal valF
  by_cases h0 : f.2.1 = 0
  · simp only [if_pos h0]
    exact ⟨.nul, rfl, .of _ rfl, reads_nul.deep (by omega)⟩
  by_cases h1 : f.2.1 = 1
  · simp only [if_neg h0, if_pos h1]
    cases hb : f.2.2.1 with
    | true => exact ⟨.tru, rfl, .of _ rfl, reads_tru.deep (by omega)⟩
    | false => exact ⟨.fls, rfl, .of _ rfl, reads_fls.deep (by omega)⟩
  by_cases h2 : f.2.1 = 2
  · simp only [if_neg h0, if_neg h1, if_pos h2]
    refine ⟨_, rfl, ?_, ?_⟩
    · cases hb : f.2.2.2.1 && decide (0 < f.2.2.2.2.1) with
      | true => exact .of _ rfl
      | false => exact dig_hard (digF_digits _)
    · exact (reads_num (digF_digits _) _).deep (by omega)
  by_cases h3 : f.2.1 = 3
  · simp only [if_neg h0, if_neg h1, if_neg h2, if_pos h3]
    exact ⟨_, ⟨_, rfl, textF_pieces (runesOf_ok _) y, textF_len _ _⟩, quo_hard _ _, (quo_reads _ _).deep (by omega)⟩
  by_cases h5 : f.2.1 = 5
  · simp only [if_neg h0, if_neg h1, if_neg h2, if_neg h3, if_pos h5]
    obtain ⟨kvs, hk⟩ := nest_reads f.2.2.2.2.2.1 y
    exact ⟨_, ⟨kvs, rfl⟩, .of _ rfl, hk⟩
  · simp only [if_neg h0, if_neg h1, if_neg h2, if_neg h3, if_neg h5]
    obtain ⟨xs, e1, e2, e3⟩ := list_reads (decide (f.2.1 = 4)) f.2.2.2.2.2.2 y
    refine ⟨.arr xs, ⟨xs, rfl, e1, fun i s x hs hx => ?_⟩, .of _ rfl, e3⟩
    have := e2 i s x hs hx
    by_cases h4 : f.2.1 = 4
    · rw [if_pos (decide_eq_true h4)] at this
      rw [if_pos h4]
      exact this
    · rw [if_neg (by rw [decide_eq_false h4]; exact Bool.false_ne_true)] at this
      rw [if_neg h4]
      exact this
/-- A field, to the reader. -/
def IsField (f : Hf) (p : Bs × JV) : Prop := Pieces p.1 (encR (runesOf f.1)) ∧ p.1.length ≤ 12 * (runesOf f.1).length ∧ IsVal f p.2
theorem field_reads (f : Hf) (y : Nat) (b : Bs) (hb : WSs b) : ∃ p : Bs × JV, IsField f p ∧ FieldT p.1 p.2 (b ++ (fieldF f y).1) 1 := by
  obtain ⟨v, h1, h2, h3⟩ := val_reads f (blk (blk (quoF f.1 y).2).2).2
  refine ⟨((textF (runesOf f.1) y).1, v), ⟨textF_pieces (runesOf_ok _) y, textF_len _ _, h1⟩, b, encR (runesOf f.1), (blk (quoF f.1 y).2).1, (blk (blk (quoF f.1 y).2).2).1 ++ ((valF f (blk (blk (quoF f.1 y).2).2).2).1 ++ (blk (valF f (blk (blk (quoF f.1 y).2).2).2).2).1), ?_, hb, blk_ws _, textF_pieces (runesOf_ok _) y, ?_⟩
  · unfold fieldF
    simp only [quoF, List.append_assoc, List.cons_append, List.nil_append]
  · exact ⟨(blk (blk (quoF f.1 y).2).2).1, (valF f (blk (blk (quoF f.1 y).2).2).2).1, (blk (valF f (blk (blk (quoF f.1 y).2).2).2).2).1, by rw [List.append_assoc], blk_ws _, blk_ws _, h2, h3⟩
/-- The text of a header, read. -/
theorem headF_reads (l : List Hf) (x : Nat) : ∃ (kvs : List (Bs × JV)) (a q b : Bs), headF l x = a ++ (123 :: q) ++ b ∧ WSs a ∧ WSs b ∧ Reads (.obj kvs) (123 :: q) 2 ∧ kvs.length = l.length ∧ (∀ (i : Nat) (f : Hf) (p : Bs × JV), l[i]? = some f → kvs[i]? = some p → IsField f p) ∧ (∃ q', q = q' ++ [125]) := by
  by_cases h0 : l = []
  · subst h0
    refine ⟨[], (blk x).1, (blk (blk x).2).1 ++ [125], (blk (blk (blk x).2).2).1, ?_, blk_ws _, blk_ws _, ?_, rfl, fun i f p h => by simp at h, _, rfl⟩
    · unfold headF seqF
      simp
    · exact (reads_obj0 (blk_ws _)).deep (by omega)
  · obtain ⟨us, h1, h2, h3⟩ := seqF_commas fieldF (fun f (p : Bs × JV) u => IsField f p ∧ FieldT p.1 p.2 u 1) (fun f y b hb => field_reads f y b hb) l (blk (blk x).2).2 (blk (blk x).2).1 h0 (blk_ws _)
    have hus : us ≠ [] := by
      rintro rfl
      exact h0 (List.eq_nil_of_length_eq_zero (by rw [← h2]; rfl))
    refine ⟨us.map (·.1), (blk x).1, commas (us.map (·.2)) ++ [125], (blk (seqF fieldF true l (blk (blk x).2).2).2).1, ?_, blk_ws _, blk_ws _, ?_, by rw [List.length_map, h2], fun i f p hf hp => ?_, _, rfl⟩
    · unfold headF
      rw [← h1]
      simp only [List.append_assoc, List.cons_append, List.nil_append]
    · exact reads_obj (dep := 1) (l := us) (fun p hp => by
        obtain ⟨i, hi, e⟩ := List.mem_iff_getElem.1 hp
        have hil : i < l.length := by omega
        have := (h3 i l[i] us[i] (List.getElem?_eq_getElem hil) (List.getElem?_eq_getElem hi)).2
        rw [e] at this
        exact this) hus
    · obtain ⟨u, hu, rfl⟩ := map_get us i p hp
      exact (h3 i f u hf hu).1
end Go.Proofs.YtgldcjmdjhghpaaGreatDoor
