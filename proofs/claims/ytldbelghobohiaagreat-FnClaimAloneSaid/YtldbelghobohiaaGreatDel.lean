/-
  clear of a row's end; laws about it.
-/
import Derived.Test.YtldbelghobohiaaGreatFg
namespace Go.Proofs.YtldbelghobohiaaGreat
open Go.RowKit Go.Proofs.YtldbelghobohiaaGreatW.PrintWords Go.ChangeShapes Go.WideShapes
set_option linter.unusedVariables false
set_option linter.unusedSimpArgs false
set_option maxRecDepth 100000
theorem zeroCells_one {z : Value} (hz : ∀ v ∈ z.cells.toList, v.oneCell' = true) (n : Nat) : ∀ v ∈ (Builtin.zeroCells z.cells n).toList, v.oneCell' = true := by
  intro v hv
  unfold Builtin.zeroCells at hv
  rw [Array.toList_map, List.mem_map] at hv
  obtain ⟨i, hi, rfl⟩ := hv
  have hi2 : i < n * z.cells.size := by simpa using hi
  have hpos : 0 < z.cells.size := by
    rcases Nat.eq_zero_or_pos z.cells.size with h | h
    · rw [h, Nat.mul_zero] at hi2; omega
    · exact h
  have hm := Nat.mod_lt i hpos
  rw [getElem!_pos z.cells _ hm]
  exact hz _ (by simp)
theorem zeroCells_len (z : Value) (n : Nat) : (Builtin.zeroCells z.cells n).toList.length = n * z.cells.size := by
  unfold Builtin.zeroCells
  simp
section
variable {w0 w W : World} {B : Nat} {L : List Asrt} {α : Type} {d : Kd α} {e g n cap : Nat} {xs : List α}
theorem list_set_same {L : List Asrt} {i : Nat} {a : Asrt} (hi : L[i]? = some a) : L.set i a = L := by
  apply List.ext_getElem?
  intro j
  rw [List.getElem?_set]
  split
  · rename_i ej; subst ej; rw [hi]; simp [(List.getElem?_eq_some_iff.1 hi).1]
  · rfl
/-- What lies behind a row's end may be written. -/
theorem Hold.beyond1 (hS : Hold w0 B w L) (i : Nat) (hi : L[i]? = some (.row d e (.slice (some ⟨g, 0, none⟩) n cap) xs)) (o : Nat) (ho : n * d.sz ≤ o) (u : Value) : Hold w0 B (w.setCell ⟨g, o, none⟩ u) L := by
  obtain ⟨f, hp, hb, hF⟩ := hS.focus i hi
  have hC : Chg w (w.setCell ⟨g, o, none⟩ u) f := ⟨rfl, rfl, rfl, by simp, fun k _ hn => Below.heap_setCell w ⟨g, o, none⟩ u k (fun e => hn (by have e' : k = g := e; rw [e']; exact hp.1 g rfl))⟩
  have := hF (w.setCell ⟨g, o, none⟩ u) (.row d e (.slice (some ⟨g, 0, none⟩) n cap) xs) f ?_ (fun k h => .inl h) hC
  · rwa [list_set_same hi] at this
  obtain ⟨h0, inner, ⟨hn, ho2⟩, hr⟩ := hp
  rcases ho2 with ⟨hv, _⟩ | ⟨g', cap', cur, hv, hb0, hh, hnc, hcm, hcs, htk⟩
  · cases hv
  · injection hv with ha hnn hc
    injection ha with ha
    injection ha with ha
    subst ha
    refine ⟨h0, inner, ⟨hn, .inr ⟨g, cap', cur.setIfInBounds o u, by rw [hc, hnn], hb0, ?_, hnc, hcm, by simpa using hcs, ?_⟩⟩, ?_⟩
    · simp only [World.setCell, Array.getElem?_modify, if_true, hh, Option.map_some]
      rfl
    · rw [← htk]
      apply List.ext_getElem?
      intro j
      rw [List.getElem?_take, List.getElem?_take]
      by_cases hj : j < xs.length * d.sz
      · rw [if_pos hj, if_pos hj, Array.getElem?_toList, Array.getElem?_toList, Array.getElem?_setIfInBounds_ne (by rw [← hnn] at hj; omega)]
      · rw [if_neg hj, if_neg hj]
    · exact hr.imp_ (fun _ _ hm => d.M_far hm (p := ⟨g, o, none⟩) (fun k hk e => hk.2 (by rw [e]; rfl)) u)
theorem Hold.beyond (hS : Hold w0 B w L) (i : Nat) (hi : L[i]? = some (.row d e (.slice (some ⟨g, 0, none⟩) n cap) xs)) : ∀ (vs : List Value) (o : Nat) (w : World), Hold w0 B w L → n * d.sz ≤ o → Hold w0 B (w.setCells g o vs) L
  | [], _, _, h, _ => h
  | v :: r, o, w, h, ho => Hold.beyond hS i hi r (o + 1) (w.setCell ⟨g, o, none⟩ v) (h.beyond1 i hi o ho v) (by omega)
/-- The cells of a row's block, as many as it has room for. -/
theorem Hold.room (hS : Hold w0 B w L) (i : Nat) (hi : L[i]? = some (.row d e (.slice (some ⟨g, 0, none⟩) n cap) xs)) : ∀ j, j < cap * d.sz → (w.cell? ⟨g, j, none⟩).isSome = true ∧ w.frozen? ⟨g, j, none⟩ = false := by
  obtain ⟨f, hp, hb⟩ := hS.get i hi
  obtain ⟨h0, inner, ⟨hn, ho2⟩, hr⟩ := hp
  rcases ho2 with ⟨hv, _⟩ | ⟨g', cap', cur, hv, hb0, hh, hnc, hcm, hcs, htk⟩
  · cases hv
  · injection hv with ha hnn hc
    injection ha with ha
    injection ha with ha
    subst ha; subst hc
    intro j hj
    exact ⟨by simp [World.cell?, hh, hcs, hj], by simp [World.frozen?, hh]⟩
variable {P : Program} {ops : Array Oper} {rest : List Oper} {o : Oper} {a : Act} {Q : Exit → Act → World → Prop}
/-- clear(s[k:]). -/
theorem Hold.clearTail (i : Nat) (hS : Hold w0 B W L) (hi : L[i]? = some (.row d e (.slice (some ⟨g, 0, none⟩) n cap) xs)) (hgd : o.guard = none) (s : Operand) (t : TypeId) (z : Value)
    (ho : o.op = .call { callee := .builtin .clear, args := #[s], argTypes := #[t] }) (ht : P.underlying t = some (.slice e)) (hz : ∀ w, (zeroValue e).run P w = .ok z w) (hzs : z.cells.size = d.sz) (hz1 : ∀ v ∈ z.cells.toList, v.oneCell' = true)
    (k c2 : Nat) (hk : k < n) (hnc : n ≤ cap) (hs : a.eval s = .slice (some ⟨g, k * d.sz, none⟩) (n - k) c2)
    (h : ∀ w1, Hold w0 B w1 (L.set i (.row d e (.slice (some ⟨g, 0, none⟩) k cap) (xs.take k))) → wpList P ops Q rest (a.put o.dst (.tuple #[])) w1) : wpList P ops Q (o :: rest) a W := by
  have hR := hS.room i hi
  have hT := hS.rowTake i hi k (by omega)
  have hT2 := hT.beyond i (list_set_at hi) (Builtin.zeroCells z.cells (n - k)).toList (k * d.sz) W hT (Nat.le_refl _)
  have hle : k * d.sz + (n - k) * d.sz = n * d.sz := by rw [← Nat.add_mul]; congr 1; omega
  have hle2 : n * d.sz ≤ cap * d.sz := Nat.mul_le_mul_right _ hnc
  have hst := run_storeCells_cells (P := P) g (k * d.sz) (Builtin.zeroCells z.cells (n - k)).toList 0 W
    (fun j hj => by rw [zeroCells_len, hzs] at hj; exact (hR (k * d.sz + 0 + j) (by omega)).1) (fun j hj => by rw [zeroCells_len, hzs] at hj; exact (hR (k * d.sz + 0 + j) (by omega)).2) (zeroCells_one hz1 _)
  obtain ⟨m, hm⟩ : ∃ m, n - k = m + 1 := ⟨n - k - 1, by omega⟩
  refine wpList_plain hgd fun K hK => ?_
  have hrun : (Builtin.clear_ #[t] o.type #[.slice (some ⟨g, k * d.sz, none⟩) (n - k) c2]).run P W = .ok (.tuple #[]) (W.setCells g (k * d.sz) (Builtin.zeroCells z.cells (n - k)).toList) := by
    simp only [Nat.add_zero] at hst
    rw [hm] at hst ⊢
    simp [Builtin.clear_, run_underlying ht, hz, hst]
  unfold Oper.wp execOp
  simp only [ho, resolve, invoke, builtin, Sem.run_bind, Sem.run_pure, Result.andThen_ok, List.map_toArray, List.map_cons, List.map_nil, hs]
  rw [hrun]
  exact hK _ _ (h _ hT2)
end
end Go.Proofs.YtldbelghobohiaaGreat
