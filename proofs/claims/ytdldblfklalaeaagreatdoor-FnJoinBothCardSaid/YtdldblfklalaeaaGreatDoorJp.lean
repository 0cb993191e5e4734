/-
  A JSON text of plain fields (names and texts that stand as they are): what the plain reader makes of it. No program in sight.
-/
import Derived.Test.YtdldblfklalaeaaGreatDoorQj
import Derived.Test.YtdldblfklalaeaaGreatDoorQk
import Derived.Test.YtdldblfklalaeaaGreatDoorQl
namespace Go.Proofs.YtdldblfklalaeaaGreatDoor
open Go.RowKit Go.Proofs.YtdldblfklalaeaaGreatDoorW.PrintWords
set_option linter.unusedVariables false
set_option linter.unusedSimpArgs false
/-- A short text that stands in a JSON text as it is. -/
structure Safe (s : Bs) : Prop where
  len : s.length ≤ 60
  ch : ∀ c ∈ s, c ≠ 34 ∧ c ≠ 92
theorem Safe.pieces {s : Bs} (h : Safe s) : Pieces s s := by
  have := Pieces.plain s h.ch .nil
  rwa [List.append_nil] at this
theorem Safe.unesc {s : Bs} (h : Safe s) : unesc s = s := h.pieces.unesc
def fieldJ (p : Bs × Bs) : Bs := 34 :: (p.1 ++ 34 :: 58 :: 34 :: (p.2 ++ [34]))
def jText (l : List (Bs × Bs)) : Bs := 123 :: (commas (l.map fieldJ) ++ [125])
def jVal (l : List (Bs × Bs)) : List (Bs × JV) := l.map fun p => (p.1, .str p.2)
theorem jText_top {l : List (Bs × Bs)} (h : ∀ p ∈ l, Safe p.1 ∧ Safe p.2) : pTop (jText l) = some (.obj (jVal l)) := by
  by_cases h0 : l = []
  · subst h0
    exact pTop_of (dep := 0) ⟨[], jText [], [], by simp, WSs.nil, WSs.nil, .of _ rfl, reads_obj0 WSs.nil⟩ (by decide)
  · have e1 : (l.map fun p => ((p.1, JV.str p.2), fieldJ p)).map (·.2) = l.map fieldJ := by rw [List.map_map]; rfl
    have e2 : (l.map fun p => ((p.1, JV.str p.2), fieldJ p)).map (·.1) = jVal l := by rw [List.map_map]; rfl
    have hr := reads_obj (dep := 0) (l := l.map fun p => ((p.1, JV.str p.2), fieldJ p)) (fun q hq => by
      obtain ⟨p, hp, rfl⟩ := List.mem_map.1 hq
      refine ⟨[], p.1, [], 34 :: (p.2 ++ [34]), rfl, WSs.nil, WSs.nil, (h p hp).1.pieces, ⟨[], 34 :: (p.2 ++ [34]), [], by simp, WSs.nil, WSs.nil, .of _ rfl, reads_str (h p hp).2.pieces⟩⟩) (by simpa using h0)
    rw [e1, e2] at hr
    exact pTop_of ⟨[], jText l, [], by simp, WSs.nil, WSs.nil, .of _ rfl, hr⟩ (by decide)
theorem jText_fit {l : List (Bs × Bs)} (h : ∀ p ∈ l, Safe p.1 ∧ Safe p.2) : FitO (pTop (jText l)) := by
  intro v hv
  rw [jText_top h] at hv
  injection hv with hv
  subst hv
  refine ⟨jVal l, rfl, ⟨fun q hq => ?_⟩, fun p hp => ?_⟩
  · obtain ⟨p, hp, rfl⟩ := List.mem_map.1 hq
    obtain ⟨x, hx, rfl⟩ := List.mem_map.1 hp
    exact ⟨(h x hx).1.pieces.well, by have := (h x hx).1.len; simp only; omega⟩
  · obtain ⟨x, hx, rfl⟩ := List.mem_map.1 hp
    exact ⟨(h x hx).2.pieces.well, by have := (h x hx).2.len; omega⟩
theorem findJ {α : Type} {p q : α → Bool} : ∀ {l : List α}, (∀ x ∈ l, p x = q x) → l.find? p = l.find? q
  | [], _ => rfl
  | x :: r, h => by rw [List.find?_cons, List.find?_cons, h x (by simp), findJ (fun y hy => h y (List.mem_cons_of_mem _ hy))]
theorem jText_get {l : List (Bs × Bs)} (h : ∀ p ∈ l, Safe p.1 ∧ Safe p.2) (hn : (l.map (·.1)).Nodup) (key : Bs) : tGet (pTop (jText l)) key = (l.find? fun p => p.1 == key).map fun p => .str p.2 := by
  rw [jText_top h]
  have e : (jVal l).map (fun p => Go.Proofs.YtdldblfklalaeaaGreatDoor.unesc p.1) = l.map (·.1) := by
    unfold jVal
    rw [List.map_map]
    exact List.map_congr_left fun p hp => (h p hp).1.unesc
  show oGet (jVal l) key = _
  rw [oGet_name (by rw [e]; exact hn)]
  unfold jVal
  rw [List.find?_map, Option.map_map]
  congr 1
  exact findJ fun p hp => by show (Go.Proofs.YtdldblfklalaeaaGreatDoor.unesc p.1 == key) = _; rw [(h p hp).1.unesc]
theorem jText_str {l : List (Bs × Bs)} (h : ∀ p ∈ l, Safe p.1 ∧ Safe p.2) (hn : (l.map (·.1)).Nodup) (key : Bs) : strT (pTop (jText l)) key = (l.find? fun p => p.1 == key).map (·.2) := by
  unfold strT
  rw [jText_get h hn]
  cases hf : l.find? fun p => p.1 == key with
  | none => rfl
  | some p => exact congrArg some (h p (List.mem_of_find?_eq_some hf)).2.unesc
theorem commas_len (k : Nat) : ∀ (l : List Bs), (∀ u ∈ l, u.length ≤ k) → (commas l).length ≤ l.length * (k + 1)
  | [], _ => by simp [commas]
  | [u], h => by have := h u (by simp); simp [commas]; omega
  | u :: v :: us, h => by
    have h1 := h u (by simp)
    have h2 := commas_len k (v :: us) (fun x hx => h x (List.mem_cons_of_mem _ hx))
    rw [commas_cons]
    simp only [List.length_append, List.length_cons, Nat.add_mul, Nat.one_mul] at h2 ⊢
    omega
theorem jText_len {l : List (Bs × Bs)} (h : ∀ p ∈ l, Safe p.1 ∧ Safe p.2) : (jText l).length ≤ l.length * 126 + 2 := by
  have := commas_len 125 (l.map fieldJ) (fun u hu => by
    obtain ⟨p, hp, rfl⟩ := List.mem_map.1 hu
    have h1 := (h p hp).1.len
    have h2 := (h p hp).2.len
    simp [fieldJ]
    omega)
  unfold jText
  simp only [List.length_map] at this
  simp
  omega
theorem commas_snoc (u : Bs) : ∀ (l : List Bs), l ≠ [] → commas (l ++ [u]) = commas l ++ 44 :: u
  | [], h => absurd rfl h
  | [v], _ => rfl
  | v :: x :: us, _ => by
    rw [List.cons_append, List.cons_append, commas_cons, ← List.cons_append, commas_snoc u (x :: us) (by simp), commas_cons]
    simp
end Go.Proofs.YtdldblfklalaeaaGreatDoor
