/-
  A buffer of bytes that began as a literal or as []byte(s), among what is held: appended to by texts and by literals.
-/
import Derived.Test.YtdldblfklalaeaaGreatDoorQg
import Derived.Test.YtdldblfklalaeaaGreatDoorQa
namespace Go.Proofs.YtdldblfklalaeaaGreatDoor
open Go.RowKit Go.Proofs.YtdldblfklalaeaaGreatDoorW.PrintWords Go.ChangeShapes Go.WideShapes
set_option linter.unusedVariables false
set_option linter.unusedSimpArgs false
theorem Chg.mono {w w' : World} {f f' : Nat → Prop} (h : Chg w w' f) (hf : ∀ k, f k → f' k) : Chg w w' f' := ⟨h.os, h.tape, h.output, h.size, fun k hk hn => h.block k hk (fun hh => hn (hf k hh))⟩
theorem setCells_chg (b : Nat) : ∀ (vs : List Value) (o : Nat) (w : World), Chg w (w.setCells b o vs) (fun k => k = b)
  | [], o, w => ⟨rfl, rfl, rfl, Nat.le_refl _, fun _ _ _ => rfl⟩
  | v :: r, o, w => (show Chg w (w.setCell ⟨b, o, none⟩ v) (fun k => k = b) from ⟨rfl, rfl, rfl, by simp [World.setCell], fun k _ hn => Below.heap_setCell w ⟨b, o, none⟩ v k hn⟩).trans (setCells_chg b r (o + 1) _)
theorem cell_same {w w1 : World} {g : Nat} (h : w1.heap[g]? = w.heap[g]?) (j : Nat) : w1.cell? ⟨g, j, none⟩ = w.cell? ⟨g, j, none⟩ := by simp only [World.cell?, h]
theorem frozen_same {w w1 : World} {g : Nat} (h : w1.heap[g]? = w.heap[g]?) (j : Nat) : w1.frozen? ⟨g, j, none⟩ = w.frozen? ⟨g, j, none⟩ := by simp only [World.frozen?, h]
theorem BufAt.same {B : Nat} {w w1 : World} {g cap : Nat} {xs : Bs} (h : BufAt B w g cap xs) (e : w1.heap[g]? = w.heap[g]?) : BufAt B w1 g cap xs :=
  ⟨h.le, by
    have h2 := h.lt
    rw [Array.getElem?_eq_getElem h2] at e
    exact (Array.getElem?_eq_some_iff.1 e).1, h.len, h.cm, fun j hj => by rw [cell_same e]; exact h.is j hj, fun j hj => by rw [frozen_same e]; exact h.fr j hj, fun j u hu => by rw [cell_same e]; exact h.at_ j u hu⟩
def Asrt.buf (g cap : Nat) (xs : Bs) : Asrt where
  p := fun w f => f g ∧ BufAt 0 w g cap xs
  loc := fun h hm => ⟨h.1, h.2.same (hm _ h.1 h.2.lt)⟩
  mono := fun hm h => ⟨hm _ h.1, h.2⟩
  bnd := fun h => ⟨⟨h.1, h.2.lt⟩, h.2⟩
section
variable {w0 w W : World} {B : Nat} {L : List Asrt}
theorem Hold.bufC (hS : Hold w0 B w L) (i : Nat) {g cap : Nat} {xs : Bs} (hi : L[i]? = some (.buf g cap xs)) : kB.C w (some ⟨g, 0, none⟩) xs.length xs ∧ xs.length ≤ cap := by
  obtain ⟨f, hp, _⟩ := hS.get i hi
  exact ⟨hp.2.C, hp.2.len⟩
theorem Hold.bufNew (hS : Hold w0 B w L) {g cap : Nat} {xs : Bs} (h : BufAt w.heap.size W g cap xs) (hb : Below w.heap.size w W) : Hold w0 B W (.buf g cap xs :: L) :=
  hS.push (f' := fun k => k = g) ⟨rfl, ⟨Nat.zero_le _, h.lt, h.len, h.cm, h.is, h.fr, h.at_⟩⟩ (fun k hk => by rw [hk]; exact h.le) (Chg.of_below hb _)
theorem lit_buf (w : World) (xs : Bs) (c : Nat) (hm : xs.length ≤ maxLen) : BufAt w.heap.size (w.alloc (.cells (xs.map bV).toArray 5 (xs.length, c))) w.heap.size xs.length xs := by
  have hat : (w.alloc (.cells (xs.map bV).toArray 5 (xs.length, c))).heap[w.heap.size]? = some (.cells (xs.map bV).toArray 5 (xs.length, c)) := blk_new w _
  refine ⟨Nat.le_refl _, (Array.getElem?_eq_some_iff.1 hat).1, Nat.le_refl _, hm, fun j hj => ?_, fun j hj => ?_, fun j u hu => ?_⟩
  · simp only [World.cell?, hat]
    simp [hj]
  · simp only [World.frozen?, hat]
    simp
    omega
  · have hj : j < xs.length := (List.getElem?_eq_some_iff.1 hu).1
    simp only [World.cell?, hat]
    simp [hu]
/-- 'append(b, s...)', s a text. -/
theorem Hold.bufStr (hS : Hold w0 B w L) (i : Nat) {g cap : Nat} {xs : Bs} (hi : L[i]? = some (.buf g cap xs)) (ty : Nat) (s : Bs) (hl : xs.length + s.length ≤ 1000000000000) :
    ∃ g' cap' w', (Builtin.append_ #[30, 9] ty #[.slice (some ⟨g, 0, none⟩) xs.length cap, .string (bStr s)]).run Tryz.prog w = .ok (.slice (some ⟨g', 0, none⟩) (xs ++ s).length cap') w' ∧ Hold w0 B w' (L.set i (.buf g' cap' (xs ++ s))) := by
  obtain ⟨f, hp, hb0, hk⟩ := hS.focus i hi
  have h := hp.2
  obtain ⟨ti, hti, hz, h1, hb⟩ := infoU8
  have ht := Tryz.underlying30
  have hu := Tryz.underlying9
  have hsz : (bStr s).size = s.length := rfl
  by_cases hr : xs.length + s.length ≤ cap
  · have hf := Lib.run_firstCells_string (P := Tryz.prog) w 1 (bStr s)
    rw [hsz] at hf
    have hst := run_storeCells_cells (P := Tryz.prog) g xs.length (Lib.strCells (bStr s)) 0 w (fun j hj => h.is _ (by rw [Lib.strCells_length, hsz] at hj; omega)) (fun j hj => h.fr _ (by rw [Lib.strCells_length, hsz] at hj; omega)) (Lib.strCells_oneCell _)
    refine ⟨g, cap, _, ?_, hk _ (.buf g cap (xs ++ s)) f ⟨hp.1, h.room hr⟩ (fun k hh => .inl hh) ((setCells_chg _ _ _ _).mono (fun k e => by rw [e]; exact hp.1))⟩
    rw [List.length_append]
    simp [Builtin.append_, run_underlying ht, run_underlying hu, sizeOf, typeInfo, hti, h1, Builtin.lenOf, hsz, hr, hf, Addr.add_lit, hst]
  · have := Lib.run_append_grow_string (P := Tryz.prog) w 30 9 ty 5 ti (.int .u8 0) ht hu hti hz ⟨g, 0, none⟩ xs.length cap (Lib.strCells (bStr xs)) (by rw [Lib.strCells_length, h1]; show xs.length = _; omega) h.olds (bStr s) (by rw [hsz]; omega) (by rw [hsz]; omega) (growslice_fits (by rw [hsz]; omega) (by rw [hsz, hb]; omega))
    rw [hsz] at this
    refine ⟨w.heap.size, grownCap w (xs.length + s.length) cap 5, _, by rw [List.length_append]; exact this, hk _ (.buf w.heap.size (grownCap w (xs.length + s.length) cap 5) (xs ++ s)) (fun k => k = w.heap.size) ⟨rfl, BufAt.grown _ _ (Nat.zero_le _) (by rw [List.length_append]; exact grownCap_ge _ _ _ _) (grownCap_le_maxLen _ _ _ _ (by unfold maxLen; omega)) _ ?_⟩ (fun k e => .inr (by omega)) ⟨rfl, rfl, rfl, by simp, fun k hh _ => Below.heap_alloc w.drew _ _ hh⟩⟩
    rw [strCells_app, List.length_append]
    simp
/-- 'append(b, c..)': what is appended stands in a literal. -/
theorem Hold.bufLit (hS : Hold w0 B w L) (i : Nat) {g cap : Nat} {xs : Bs} (hi : L[i]? = some (.buf g cap xs)) (ty a c : Nat) (s : Bs) (hs : ∀ j u, s[j]? = some u → w.cell? ⟨a, j, none⟩ = some (bV u)) (hs0 : 0 < s.length) (hl : xs.length + s.length ≤ 1000000000000) :
    ∃ g' cap' w', (Builtin.append_ #[30, 30] ty #[.slice (some ⟨g, 0, none⟩) xs.length cap, .slice (some ⟨a, 0, none⟩) s.length c]).run Tryz.prog w = .ok (.slice (some ⟨g', 0, none⟩) (xs ++ s).length cap') w' ∧ Hold w0 B w' (L.set i (.buf g' cap' (xs ++ s))) := by
  obtain ⟨f, hp, hb0, hk⟩ := hS.focus i hi
  have h := hp.2
  obtain ⟨ti, hti, hz, h1, hb⟩ := infoU8
  have ht := Tryz.underlying30
  have hsl : (Lib.strCells (bStr s)).length = s.length := Lib.strCells_length _
  have hnews : ∀ j u, (Lib.strCells (bStr s))[j]? = some u → w.cell? ((⟨a, 0, none⟩ : Addr).add j) = some u := fun j v hv => by
    rw [strCells_get] at hv
    rw [WideShapes.add_plain, Nat.zero_add]
    cases hx : s[j]? with
    | none => rw [hx] at hv; cases hv
    | some u =>
      rw [hx] at hv
      rw [hs j u hx]
      exact hv
  by_cases hr : xs.length + s.length ≤ cap
  · have hf := run_firstCells_some (P := Tryz.prog) w 1 s.length ⟨a, 0, none⟩ s.length c (Lib.strCells (bStr s)) (by rw [hsl]; omega) hnews
    have hst := run_storeCells_cells (P := Tryz.prog) g xs.length (Lib.strCells (bStr s)) 0 w (fun j hj => h.is _ (by omega)) (fun j hj => h.fr _ (by omega)) (Lib.strCells_oneCell _)
    refine ⟨g, cap, _, ?_, hk _ (.buf g cap (xs ++ s)) f ⟨hp.1, h.room hr⟩ (fun k hh => .inl hh) ((setCells_chg _ _ _ _).mono (fun k e => by rw [e]; exact hp.1))⟩
    rw [List.length_append]
    simp [Builtin.append_, run_underlying ht, sizeOf, typeInfo, hti, h1, Builtin.lenOf, hr, hf, Addr.add_lit, hst]
  · have := run_append_grow (P := Tryz.prog) w 30 ty 5 ti (.int .u8 0) ht hti hz ⟨g, 0, none⟩ xs.length cap (Lib.strCells (bStr xs)) (by rw [Lib.strCells_length, h1]; show xs.length = _; omega) h.olds ⟨a, 0, none⟩ s.length c (Lib.strCells (bStr s)) (by rw [hsl, h1]; omega) hnews (by omega) (by omega) (growslice_fits (by omega) (by rw [hb]; omega))
    refine ⟨w.heap.size, grownCap w (xs.length + s.length) cap 5, _, by rw [List.length_append]; exact this, hk _ (.buf w.heap.size (grownCap w (xs.length + s.length) cap 5) (xs ++ s)) (fun k => k = w.heap.size) ⟨rfl, BufAt.grown _ _ (Nat.zero_le _) (by rw [List.length_append]; exact grownCap_ge _ _ _ _) (grownCap_le_maxLen _ _ _ _ (by unfold maxLen; omega)) _ ?_⟩ (fun k e => .inr (by omega)) ⟨rfl, rfl, rfl, by simp, fun k hh _ => Below.heap_alloc w.drew _ _ hh⟩⟩
    rw [strCells_app, List.length_append]
    simp
/-- One byte, c, that stands in a literal of its own. -/
theorem Hold.bufByte (hS : Hold w0 B w L) (i : Nat) {g cap : Nat} {xs : Bs} (hi : L[i]? = some (.buf g cap xs)) (ty : Nat) (c : UInt8) (hl : xs.length + 1 ≤ 1000000000000) :
    ∃ g' cap' w', (Builtin.append_ #[30, 30] ty #[.slice (some ⟨g, 0, none⟩) xs.length cap, .slice (some ⟨w.heap.size, 0, none⟩) 1 1]).run Tryz.prog (w.alloc (.cells #[.int .u8 (c.toNat : Int)] 5)) = .ok (.slice (some ⟨g', 0, none⟩) (xs ++ [c]).length cap') w' ∧ Hold w0 B w' (L.set i (.buf g' cap' (xs ++ [c]))) :=
  (hS.alloc_ (.cells #[.int .u8 (c.toNat : Int)] 5)).bufLit i hi ty w.heap.size 1 [c] (fun j u hu => by
    rw [World.cell?_alloc_new]
    cases j with
    | zero =>
      obtain rfl : c = u := by simpa using hu
      rfl
    | succ j => simp at hu) (by simp) (by simpa using hl)
end
end Go.Proofs.YtdldblfklalaeaaGreatDoor
