/-
  FnJoinHeader: the plain part: the fields that have been met, and the text that is made of them.
-/
import Derived.Test.YtdldblfklalaeaaGreatDoorSf
import Derived.Test.YtdldblfklalaeaaGreatDoorJm
import Derived.Test.YtdldblfklalaeaaGreatDoorBf
import Derived.Test.YtdldblfklalaeaaGreatDoorSa
namespace Go.Proofs.YtdldblfklalaeaaGreatDoor
open Go.RowKit Go.Proofs.YtdldblfklalaeaaGreatDoorW.PrintWords Go.ChangeShapes Go.WideShapes
set_option linter.unusedVariables false
set_option linter.unusedSimpArgs false
set_option maxRecDepth 100000
theorem injJ {α β : Type} (g : α → β) : ∀ {l : List α}, (l.map g).Nodup → ∀ {a b : α}, a ∈ l → b ∈ l → g a = g b → a = b
  | [], _, _, _, h, _, _ => by cases h
  | x :: r, hn, a, b, ha, hb, he => by
    rw [List.map_cons, List.nodup_cons] at hn
    rcases List.mem_cons.1 ha with h1 | h1
    · rcases List.mem_cons.1 hb with h2 | h2
      · rw [h1, h2]
      · exact absurd (by rw [← h1, he]; exact List.mem_map_of_mem h2) hn.1
    · rcases List.mem_cons.1 hb with h2 | h2
      · exact absurd (by rw [← h2, ← he]; exact List.mem_map_of_mem h1) hn.1
      · exact injJ g hn.2 h1 h2 he
def bsP (p : ByteArray × ByteArray) : Bs × Bs := (p.1.data.toList, p.2.data.toList)
/-- The text, without its last sign. -/
def preJ (l : List (ByteArray × ByteArray)) : Bs := 123 :: commas ((l.map bsP).map fieldJ)
theorem preJ_end (l : List (ByteArray × ByteArray)) : preJ l ++ [125] = jText (l.map bsP) := rfl
structure Jn (l : List (ByteArray × ByteArray)) : Prop where
  nd : (l.map (·.1)).Nodup
  safe : ∀ p ∈ l, Safe p.1.data.toList ∧ Safe p.2.data.toList
  size : Maps.size (mapOf l) = l.length
theorem Jn.nil : Jn [] := ⟨List.nodup_nil, fun _ h => (by cases h), rfl⟩
theorem Jn.snoc {l : List (ByteArray × ByteArray)} (h : Jn l) {p : ByteArray × ByteArray} (hn : ∀ q ∈ l, q.1 ≠ p.1) (h1 : Safe p.1.data.toList) (h2 : Safe p.2.data.toList) : Jn (l ++ [p]) := by
  refine ⟨?_, fun q hq => ?_, mapOf_size h.size hn⟩
  · rw [List.map_append, List.nodup_append]
    refine ⟨h.nd, by simp, fun x hx y hy e => ?_⟩
    obtain ⟨q, hq, rfl⟩ := List.mem_map.1 hx
    rw [List.map_cons, List.map_nil, List.mem_singleton] at hy
    exact hn q hq (e.trans hy)
  · rcases List.mem_append.1 hq with hq | hq
    · exact h.safe q hq
    · rw [List.mem_singleton] at hq
      rw [hq]
      exact ⟨h1, h2⟩
theorem Jn.safes {l : List (ByteArray × ByteArray)} (h : Jn l) : ∀ p ∈ l.map bsP, Safe p.1 ∧ Safe p.2 := fun p hp => by
  obtain ⟨q, hq, rfl⟩ := List.mem_map.1 hp
  exact h.safe q hq
theorem Jn.names {l : List (ByteArray × ByteArray)} (h : Jn l) : ((l.map bsP).map (·.1)).Nodup := by
  have e : (l.map bsP).map (·.1) = (l.map (·.1)).map fun s => s.data.toList := by rw [List.map_map, List.map_map]; rfl
  rw [e]
  exact List.Pairwise.map _ (fun a b hne e => hne (data_ext e)) h.nd
theorem Jn.told {l : List (ByteArray × ByteArray)} (h : Jn l) {p : ByteArray × ByteArray} (hp : p ∈ l) : strT (pTop (jText (l.map bsP))) p.1.data.toList = some p.2.data.toList ∧ (tGet (pTop (jText (l.map bsP))) p.1.data.toList).isSome = true := by
  have hf : (l.map bsP).find? (fun q => q.1 == p.1.data.toList) = some (bsP p) := by
    cases hc : (l.map bsP).find? (fun q => q.1 == p.1.data.toList) with
    | none =>
      have := List.find?_eq_none.1 hc (bsP p) (List.mem_map.2 ⟨p, hp, rfl⟩)
      simp [bsP] at this
    | some q =>
      have h1 : q.1 = p.1.data.toList := by simpa using List.find?_some hc
      obtain ⟨r, hr, rfl⟩ := List.mem_map.1 (List.mem_of_find?_eq_some hc)
      have h2 : r.1 = p.1 := data_ext h1
      have : r = p := injJ (·.1) h.nd hr hp h2
      rw [this]
  rw [jText_str h.safes h.names, jText_get h.safes h.names, hf]
  exact ⟨rfl, rfl⟩
theorem Jn.untold {l : List (ByteArray × ByteArray)} (h : Jn l) {s : ByteArray} (hs : ∀ p ∈ l, p.1 ≠ s) : strT (pTop (jText (l.map bsP))) s.data.toList = none ∧ (tGet (pTop (jText (l.map bsP))) s.data.toList).isSome = false := by
  have hf : (l.map bsP).find? (fun q => q.1 == s.data.toList) = none := by
    rw [List.find?_eq_none]
    intro q hq
    obtain ⟨p, hp, rfl⟩ := List.mem_map.1 hq
    have := hs p hp
    simp only [bsP, beq_iff_eq]
    exact fun e => this (data_ext e)
  rw [jText_str h.safes h.names, jText_get h.safes h.names, hf]
  exact ⟨rfl, rfl⟩
theorem Jn.len {l : List (ByteArray × ByteArray)} (h : Jn l) : (jText (l.map bsP)).length ≤ l.length * 126 + 2 := by
  have := jText_len h.safes
  rwa [List.length_map] at this
theorem preJ_first (p : ByteArray × ByteArray) : preJ [] ++ fieldJ (bsP p) = preJ [p] := rfl
theorem preJ_next (l : List (ByteArray × ByteArray)) (p : ByteArray × ByteArray) (h : l ≠ []) : preJ l ++ [44] ++ fieldJ (bsP p) = preJ (l ++ [p]) := by
  unfold preJ
  rw [List.map_append, List.map_append, List.map_cons, List.map_nil, List.map_cons, List.map_nil, commas_snoc _ _ (by simpa using h)]
  simp
theorem field_str (a b : ByteArray) : ((({ data := #[34] } ++ a) ++ { data := #[34, 58, 34] } ++ b) ++ { data := #[34] } : ByteArray) = bStr (fieldJ (a.data.toList, b.data.toList)) := by
  apply data_ext
  rw [bStr_list]
  simp [fieldJ, ByteArray.data_append]
theorem safe_size {s : ByteArray} (h : Safe s.data.toList) : s.size ≤ 60 := by
  have := h.len
  rwa [Array.length_toList] at this
end Go.Proofs.YtdldblfklalaeaaGreatDoor
