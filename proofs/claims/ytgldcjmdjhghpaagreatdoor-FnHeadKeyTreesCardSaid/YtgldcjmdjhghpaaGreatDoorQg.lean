/-
  A buffer of bytes that began as the bytes of a string ('[]byte(s)', with the mark behind its cells), and grows. No walk.
  strconv.ParseUint of four hexadecimal digits (0-9, a-f), base 16, 16 bits: the number.
-/
import Derived.Test.YtgldcjmdjhghpaaGreatDoorQf
import Derived.Laws.IdiomCopy
import Derived.Laws.Append
namespace Go.Proofs.YtgldcjmdjhghpaaGreatDoor
open Go.RowKit Go.Proofs.YtgldcjmdjhghpaaGreatDoorW.PrintWords Go.ChangeShapes Go.WideShapes
set_option linter.unusedVariables false
set_option linter.unusedSimpArgs false
structure BufAt (B : Nat) (w : World) (g cap : Nat) (xs : Bs) : Prop where
  le : B ≤ g
  lt : g < w.heap.size
  len : xs.length ≤ cap
  cm : cap ≤ maxLen
  is : ∀ j, j < cap → (w.cell? ⟨g, j, none⟩).isSome = true
  fr : ∀ j, j < cap → w.frozen? ⟨g, j, none⟩ = false
  at_ : ∀ j u, xs[j]? = some u → w.cell? ⟨g, j, none⟩ = some (bV u)
theorem BufAt.on {B : Nat} {w w' : World} {g cap : Nat} {xs : Bs} (h : BufAt B w g cap xs) (hb : Below w.heap.size w w') : BufAt B w' g cap xs :=
  ⟨h.le, Nat.lt_of_lt_of_le h.lt hb.size, h.len, h.cm, fun j hj => by rw [hb.cell (p := ⟨g, j, none⟩) h.lt]; exact h.is j hj, fun j hj => by rw [hb.frozen (p := ⟨g, j, none⟩) h.lt]; exact h.fr j hj, fun j u hu => by rw [hb.cell (p := ⟨g, j, none⟩) h.lt]; exact h.at_ j u hu⟩
theorem BufAt.take {B : Nat} {w : World} {g cap : Nat} {xs : Bs} (h : BufAt B w g cap xs) (k : Nat) : BufAt B w g cap (xs.take k) :=
  ⟨h.le, h.lt, (by rw [List.length_take]; have := h.len; omega), h.cm, h.is, h.fr, fun j u hu => h.at_ j u (by
    rw [List.getElem?_take] at hu
    split at hu
    · exact hu
    · cases hu)⟩
theorem BufAt.C {B : Nat} {w : World} {g cap : Nat} {xs : Bs} (h : BufAt B w g cap xs) : kB.C w (some ⟨g, 0, none⟩) xs.length xs :=
  C_of_cellsP (by have h1 := h.cm; have h2 := h.len; unfold maxLen at h1; omega) (fun j hj => h.at_ j _ (List.getElem?_eq_getElem hj))
theorem setCells_below {B b : Nat} (hb : B ≤ b) : ∀ (vs : List Value) (o : Nat) (w : World), Below B w (w.setCells b o vs)
  | [], o, w => Below.refl _ _
  | v :: r, o, w => ((Below.refl B w).setCell (p := ⟨b, o, none⟩) hb v).trans (setCells_below hb r (o + 1) _)
theorem setCells_size (b : Nat) : ∀ (vs : List Value) (o : Nat) (w : World), (w.setCells b o vs).heap.size = w.heap.size
  | [], o, w => rfl
  | v :: r, o, w => by rw [World.setCells, setCells_size b r]; simp [World.setCell]
theorem strCells_get (s : Bs) (j : Nat) : (Lib.strCells (bStr s))[j]? = s[j]?.map bV := by
  unfold Lib.strCells bStr
  rw [List.getElem?_map]
  rfl
theorem BufAt.room {B : Nat} {w : World} {g cap : Nat} {xs s : Bs} (h : BufAt B w g cap xs) (hr : xs.length + s.length ≤ cap) : BufAt B (w.setCells g xs.length (Lib.strCells (bStr s))) g cap (xs ++ s) := by
  have hl : (Lib.strCells (bStr s)).length = s.length := Lib.strCells_length _
  have hin : ∀ j, j < (Lib.strCells (bStr s)).length → (w.cell? ⟨g, xs.length + j, none⟩).isSome = true := fun j hj => h.is _ (by omega)
  refine ⟨h.le, by rw [setCells_size]; exact h.lt, by rw [List.length_append]; exact hr, h.cm, fun j hj => ?_, fun j hj => by rw [World.frozen?_setCells]; exact h.fr j hj, fun j u hu => ?_⟩
  · by_cases hj2 : xs.length ≤ j ∧ j < xs.length + s.length
    · obtain ⟨k, rfl⟩ := Nat.exists_eq_add_of_le hj2.1
      rw [World.cell?_setCells_in g _ _ w hin k (by omega)]
      rfl
    · rw [World.cell?_setCells_out g _ _ w _ (fun _ _ => by show j < _ ∨ _ ≤ j; omega)]
      exact h.is j hj
  · by_cases hj2 : xs.length ≤ j
    · obtain ⟨k, rfl⟩ := Nat.exists_eq_add_of_le hj2
      rw [List.getElem?_append_right hj2, Nat.add_sub_cancel_left] at hu
      have hk : k < s.length := (List.getElem?_eq_some_iff.1 hu).1
      rw [World.cell?_setCells_in g _ _ w hin k (by omega)]
      have := strCells_get s k
      rw [hu, List.getElem?_eq_getElem (by omega)] at this
      exact this
    · rw [World.cell?_setCells_out g _ _ w _ (fun _ _ => by show j < _ ∨ _ ≤ j; omega)]
      rw [List.getElem?_append_left (by omega)] at hu
      exact h.at_ j u hu
theorem zero_get (k i : Nat) (hi : i < k) : (Builtin.zeroCells (Value.int .u8 0).cells k)[i]? = some (.int .u8 0) := by
  rw [zeros_get _ k i (by show i < k * 1; omega) (by decide)]
  have : i % (Value.int IntKind.u8 0).cells.size = 0 := Nat.mod_one i
  rw [this]
  rfl
theorem BufAt.grown {B : Nat} {w : World} {xs : Bs} (e cap : Nat) (hB : B ≤ w.heap.size) (hl : xs.length ≤ cap) (hm : cap ≤ maxLen) (cs : Array Value) (hcs : cs = (Lib.strCells (bStr xs)).toArray ++ Builtin.zeroCells (Value.int .u8 0).cells (cap - xs.length)) :
    BufAt B (w.drew.alloc (.cells cs e)) w.heap.size cap xs := by
  have hat : (w.drew.alloc (.cells cs e)).heap[w.heap.size]? = some (.cells cs e) := blk_new w.drew _
  have hsl : (Lib.strCells (bStr xs)).length = xs.length := Lib.strCells_length _
  have hsz : cs.size = cap := by
    rw [hcs, Array.size_append, List.size_toArray, hsl, size_zeroCells]
    show _ + _ * 1 = _
    omega
  refine ⟨hB, (Array.getElem?_eq_some_iff.1 hat).1, hl, hm, fun j hj => ?_, fun j hj => frozen_of hat j, fun j u hu => ?_⟩
  · rw [cell_of hat, Array.getElem?_eq_getElem (by omega)]
    rfl
  · rw [cell_of hat, hcs]
    have hj : j < xs.length := (List.getElem?_eq_some_iff.1 hu).1
    rw [Array.getElem?_append_left (by rw [List.size_toArray, hsl]; exact hj)]
    have := strCells_get xs j
    rw [hu] at this
    simpa using this
theorem infoU8 : ∃ i, Tryz.prog.info? 5 = some i ∧ i.zero = some (.int .u8 0) ∧ i.size = 1 ∧ i.bytes = 1 := by
  obtain ⟨i, h1, h2, h3, h4⟩ := info_parts info5
  exact ⟨i, h1, h2, h3, h4⟩
theorem strCells_app (xs s : Bs) : Lib.strCells (bStr (xs ++ s)) = Lib.strCells (bStr xs) ++ Lib.strCells (bStr s) := by
  unfold Lib.strCells bStr
  simp
theorem BufAt.olds {B : Nat} {w : World} {g cap : Nat} {xs : Bs} (h : BufAt B w g cap xs) : ∀ j v, (Lib.strCells (bStr xs))[j]? = some v → w.cell? ((⟨g, 0, none⟩ : Addr).add j) = some v := by
  intro j v hv
  rw [strCells_get] at hv
  rw [WideShapes.add_plain, Nat.zero_add]
  cases hx : xs[j]? with
  | none => rw [hx] at hv; cases hv
  | some u =>
    rw [hx] at hv
    rw [h.at_ j u hx]
    exact hv
/-- 'append(b, s...)'. -/
theorem buf_str {B : Nat} {w : World} {g cap : Nat} {xs : Bs} (h : BufAt B w g cap xs) (ty : Nat) (s : Bs) (hl : xs.length + s.length ≤ 1000000000000) (hB : B ≤ w.heap.size) :
    ∃ g' cap' w', (Builtin.append_ #[30, 9] ty #[.slice (some ⟨g, 0, none⟩) xs.length cap, .string (bStr s)]).run Tryz.prog w = .ok (.slice (some ⟨g', 0, none⟩) (xs ++ s).length cap') w' ∧ BufAt B w' g' cap' (xs ++ s) ∧ Below B w w' := by
  obtain ⟨i, hi, hz, h1, hb⟩ := infoU8
  have ht := Tryz.underlying30
  have hu := Tryz.underlying9
  have hsz : (bStr s).size = s.length := rfl
  by_cases hr : xs.length + s.length ≤ cap
  · have hf := Lib.run_firstCells_string (P := Tryz.prog) w 1 (bStr s)
    rw [hsz] at hf
    have hst := run_storeCells_cells (P := Tryz.prog) g xs.length (Lib.strCells (bStr s)) 0 w (fun j hj => h.is _ (by rw [Lib.strCells_length, hsz] at hj; omega)) (fun j hj => h.fr _ (by rw [Lib.strCells_length, hsz] at hj; omega)) (Lib.strCells_oneCell _)
    refine ⟨g, cap, _, ?_, h.room hr, setCells_below h.le _ _ _⟩
    rw [List.length_append]
    simp [Builtin.append_, run_underlying ht, run_underlying hu, sizeOf, typeInfo, hi, h1, Builtin.lenOf, hsz, hr, hf, Addr.add_lit, hst]
  · have := Lib.run_append_grow_string (P := Tryz.prog) w 30 9 ty 5 i (.int .u8 0) ht hu hi hz ⟨g, 0, none⟩ xs.length cap (Lib.strCells (bStr xs)) (by rw [Lib.strCells_length, h1]; show xs.length = _; omega) h.olds (bStr s) (by rw [hsz]; omega) (by rw [hsz]; omega) (growslice_fits (by rw [hsz]; omega) (by rw [hsz, hb]; omega))
    rw [hsz] at this
    refine ⟨w.heap.size, grownCap w (xs.length + s.length) cap 5, _, by rw [List.length_append]; exact this, BufAt.grown _ _ hB (by rw [List.length_append]; exact grownCap_ge _ _ _ _) (grownCap_le_maxLen _ _ _ _ (by unfold maxLen; omega)) _ ?_, ((Below.refl B w).drew).alloc hB _⟩
    rw [strCells_app, List.length_append]
    simp
/-- 'append(b, c..)': what is appended stands in a literal. -/
theorem buf_lit {B : Nat} {w : World} {g cap : Nat} {xs : Bs} (h : BufAt B w g cap xs) (ty a c : Nat) (s : Bs) (hs : ∀ j u, s[j]? = some u → w.cell? ⟨a, j, none⟩ = some (bV u)) (hs0 : 0 < s.length) (hl : xs.length + s.length ≤ 1000000000000) (hB : B ≤ w.heap.size) :
    ∃ g' cap' w', (Builtin.append_ #[30, 30] ty #[.slice (some ⟨g, 0, none⟩) xs.length cap, .slice (some ⟨a, 0, none⟩) s.length c]).run Tryz.prog w = .ok (.slice (some ⟨g', 0, none⟩) (xs ++ s).length cap') w' ∧ BufAt B w' g' cap' (xs ++ s) ∧ Below B w w' := by
  obtain ⟨i, hi, hz, h1, hb⟩ := infoU8
  have ht := Tryz.underlying30
  have hsl : (Lib.strCells (bStr s)).length = s.length := Lib.strCells_length _
  have hnews : ∀ j u, (Lib.strCells (bStr s))[j]? = some u → w.cell? ((⟨a, 0, none⟩ : Addr).add j) = some u := fun j v hv => by
    rw [strCells_get] at hv
    rw [WideShapes.add_plain, Nat.zero_add]
    cases hx : s[j]? with
    | none => rw [hx] at hv; cases hv
    | some u =>
      rw [hx] at hv
      rw [hs j u hx]
      exact hv
  by_cases hr : xs.length + s.length ≤ cap
  · have hf := run_firstCells_some (P := Tryz.prog) w 1 s.length ⟨a, 0, none⟩ s.length c (Lib.strCells (bStr s)) (by rw [hsl]; omega) hnews
    have hst := run_storeCells_cells (P := Tryz.prog) g xs.length (Lib.strCells (bStr s)) 0 w (fun j hj => h.is _ (by omega)) (fun j hj => h.fr _ (by omega)) (Lib.strCells_oneCell _)
    refine ⟨g, cap, _, ?_, h.room hr, setCells_below h.le _ _ _⟩
    rw [List.length_append]
    simp [Builtin.append_, run_underlying ht, sizeOf, typeInfo, hi, h1, Builtin.lenOf, hr, hf, Addr.add_lit, hst]
  · have := run_append_grow (P := Tryz.prog) w 30 ty 5 i (.int .u8 0) ht hi hz ⟨g, 0, none⟩ xs.length cap (Lib.strCells (bStr xs)) (by rw [Lib.strCells_length, h1]; show xs.length = _; omega) h.olds ⟨a, 0, none⟩ s.length c (Lib.strCells (bStr s)) (by rw [hsl, h1]; omega) hnews (by omega) (by omega) (growslice_fits (by omega) (by rw [hb]; omega))
    refine ⟨w.heap.size, grownCap w (xs.length + s.length) cap 5, _, by rw [List.length_append]; exact this, BufAt.grown _ _ hB (by rw [List.length_append]; exact grownCap_ge _ _ _ _) (grownCap_le_maxLen _ _ _ _ (by unfold maxLen; omega)) _ ?_, ((Below.refl B w).drew).alloc hB _⟩
    rw [strCells_app, List.length_append]
    simp
/-- '[]byte(s)'. -/
theorem s2b_any (w : World) (s : Bs) (hs : s.length ≤ 1000000000000) :
    Calls Tryz.prog 43 #[.string (bStr s)] w fun e w' => ∃ g cap, e = .returned (.slice (some ⟨g, 0, none⟩) s.length cap) ∧ BufAt w.heap.size w' g cap s ∧ Below w.heap.size w w' := by
  have cv := Lib.run_convert_string_bytes (P := Tryz.prog) w 9 30 5 (bStr s) Tryz.underlying9 Tryz.underlying30 Tryz.underlying5
  have hsz : (bStr s).size = s.length := rfl
  have hb : Below w.heap.size w (Lib.bytesWorld w 5 (bStr s)) := (Below.refl w.heap.size w).grown (row := none) ⟨rfl, rfl, rfl, by rw [Lib.bytesWorld_size]; omega, fun k hk _ => Lib.bytesWorld_at_old w 5 (bStr s) k hk⟩ (Nat.le_refl _) (fun k h => by cases h)
  have hat := Lib.bytesWorld_at_new w 5 (bStr s)
  have hge : s.length ≤ grownCap w (bStr s).size 0 5 := grownCap_ge w _ _ _
  have hcs : (Lib.bytesCells w 5 (bStr s)).size = grownCap w (bStr s).size 0 5 := by
    unfold Lib.bytesCells
    rw [Array.size_append, Array.size_map, Array.size_replicate]
    show s.length + _ = _
    rw [hsz] at hge ⊢
    omega
  have hB : BufAt w.heap.size (Lib.bytesWorld w 5 (bStr s)) w.heap.size (grownCap w (bStr s).size 0 5) s := by
    refine ⟨Nat.le_refl _, by rw [Lib.bytesWorld_size]; omega, hge, grownCap_le_maxLen _ _ _ _ (by rw [hsz]; unfold maxLen; omega), fun j hj => ?_, fun j hj => ?_, fun j u hu => ?_⟩
    · rw [cell_of hat, Array.getElem?_eq_getElem (by omega)]
      rfl
    · simp only [World.frozen?, hat]
      simp
      omega
    · have hj : j < s.length := (List.getElem?_eq_some_iff.1 hu).1
      rw [Lib.bytesWorld_cell w _ _ _ hj]
      show some (Value.int .u8 ((s.toArray.toList.getD j 0).toNat : Int)) = _
      rw [List.getD_eq_getElem?_getD]
      simp [hu, bV]
  rw [hsz] at cv hB
  obtain ⟨W, hW⟩ : ∃ W, W = Lib.bytesWorld w 5 (bStr s) := ⟨_, rfl⟩
  obtain ⟨G, hG⟩ : ∃ G, G = grownCap w s.length 0 5 := ⟨_, rfl⟩
  rw [← hW] at cv hB hb
  rw [← hG] at cv hB
  have HB := Aside0.mk (And.intro hB hb)
  clear hB hb hat hge hcs hW hG hsz hs
  go_enter Tryz.func43, Tryz.ntmps43
  go_wp2
  go_ret
  exact ⟨_, _, rfl, HB.out.1, HB.out.2⟩
end Go.Proofs.YtgldcjmdjhghpaaGreatDoor
namespace Go.Proofs.YtgldcjmdjhghpaaGreatDoor
open Go.RowKit Go.Proofs.YtgldcjmdjhghpaaGreatDoorW.PrintWords Go.ChangeShapes Go.WideShapes
set_option linter.unusedVariables false
set_option linter.unusedSimpArgs false
set_option maxRecDepth 100000
def hexL (c : UInt8) : Bool := (48 ≤ c.toNat && c.toNat ≤ 57) || (97 ≤ c.toNat && c.toNat ≤ 102)
def hexD (c : UInt8) : Nat := if c.toNat ≤ 57 then c.toNat - 48 else c.toNat - 87
theorem lower_any (x : Int) (w : World) (h1 : 97 ≤ x) (h2 : x ≤ 102) :
    Calls Tryz.prog 84 #[.int .u8 x] w fun e w' => e = .returned (.int .u8 x) ∧ w = w' := by
  have h : x = 97 ∨ x = 98 ∨ x = 99 ∨ x = 100 ∨ x = 101 ∨ x = 102 := by omega
  clear h1 h2
  rcases h with rfl | rfl | rfl | rfl | rfl | rfl
  all_goals
    go_enter Tryz.func84, Tryz.ntmps84
    go_wp2
    go_ret
    exact ⟨rfl, rfl⟩
/-- The number of some digits, from a number on. -/
def hexV4 : Bs → Nat → Nat
  | [], a => a
  | c :: r, a => hexV4 r (a * 16 + hexD c)
theorem hexV4_snoc (s : Bs) (c : UInt8) (a : Nat) : hexV4 (s ++ [c]) a = hexV4 s a * 16 + hexD c := by
  induction s generalizing a with
  | nil => rfl
  | cons d r ih => exact ih _
theorem hexV4_lt (s : Bs) (h : ∀ c ∈ s, hexL c = true) : ∀ a, hexV4 s a < (a + 1) * 16 ^ s.length := by
  induction s with
  | nil => intro a; simp [hexV4]
  | cons c r ih =>
    intro a
    have hc := h c (List.mem_cons_self ..)
    have hd : hexD c < 16 := by
      unfold hexL at hc
      unfold hexD
      simp at hc
      split <;> omega
    have := ih (fun d hd => h d (List.mem_cons_of_mem _ hd)) (a * 16 + hexD c)
    show hexV4 r (a * 16 + hexD c) < _
    refine Nat.lt_of_lt_of_le this ?_
    rw [List.length_cons, Nat.pow_succ, ← Nat.mul_assoc, Nat.mul_right_comm]
    exact Nat.mul_le_mul_right _ (by omega)
set_option maxHeartbeats 8000000 in
theorem puint_in (ds : Bs) (w : World) (h4 : ds.length = 4) (hx : ∀ c ∈ ds, hexL c = true) :
    Calls Tryz.prog 77 #[.string (bStr ds), .int .i64 16, .int .i64 16] w fun e w' => e = .returned (.tuple #[.int .u64 (hexV4 ds 0 : Nat), .nilIface]) ∧ Below w.heap.size w w' := by
  have cv := Lib.run_convert_string_bytes (P := Tryz.prog) w 9 30 5 (bStr ds) Tryz.underlying9 Tryz.underlying30 Tryz.underlying5
  have hsz : (bStr ds).size = 4 := h4
  have hb : Below w.heap.size w (Lib.bytesWorld w 5 (bStr ds)) := (Below.refl w.heap.size w).grown (row := none) ⟨rfl, rfl, rfl, by rw [Lib.bytesWorld_size]; omega, fun k hk _ => Lib.bytesWorld_at_old w 5 (bStr ds) k hk⟩ (Nat.le_refl _) (fun k h => by cases h)
  have hcell : ∀ k (hk : k < ds.length), (Lib.bytesWorld w 5 (bStr ds)).cell? ⟨w.heap.size, k, none⟩ = some (.int .u8 ((ds[k]'hk).toNat : Int)) := fun k hk => by
    rw [Lib.bytesWorld_cell w _ _ _ (by rw [hsz]; omega)]
    show some (Value.int .u8 ((ds.toArray.toList.getD k 0).toNat : Int)) = _
    rw [List.getD_eq_getElem?_getD]
    simp [hk]
  rw [hsz] at cv
  obtain ⟨W, hW⟩ : ∃ W, W = Lib.bytesWorld w 5 (bStr ds) := ⟨_, rfl⟩
  obtain ⟨G, hG⟩ : ∃ G, G = grownCap w 4 0 5 := ⟨_, rfl⟩
  obtain ⟨g, hg⟩ : ∃ g, g = w.heap.size := ⟨_, rfl⟩
  rw [← hW] at cv hb hcell
  rw [← hG] at cv
  rw [← hg] at cv hcell
  have HB := Aside0.mk hb
  have HC := Aside0.mk hcell
  have HV : Aside0 (∀ k (hk : k < ds.length), hexL ds[k] = true ∧ hexV4 (ds.take (k + 1)) 0 = hexV4 (ds.take k) 0 * 16 + hexD ds[k] ∧ hexV4 (ds.take k) 0 < 65536 ∧ hexV4 (ds.take (k + 1)) 0 < 65536) := ⟨fun k hk => ⟨hx _ (List.getElem_mem _), by rw [List.take_succ_eq_append_getElem hk, hexV4_snoc], by
    have := hexV4_lt (ds.take k) (fun c hc => hx c (List.mem_of_mem_take hc)) 0
    have h2 : (ds.take k).length ≤ 4 := by rw [List.length_take]; omega
    have h3 : 16 ^ (ds.take k).length ≤ 16 ^ 4 := Nat.pow_le_pow_right (by decide) h2
    omega, by
    have := hexV4_lt (ds.take (k + 1)) (fun c hc => hx c (List.mem_of_mem_take hc)) 0
    have h2 : (ds.take (k + 1)).length ≤ 4 := by rw [List.length_take]; omega
    have h3 : 16 ^ (ds.take (k + 1)).length ≤ 16 ^ 4 := Nat.pow_le_pow_right (by decide) h2
    omega⟩⟩
  obtain ⟨c0, r0, hcr⟩ : ∃ c r, ds = c :: r := by
    cases ds with
    | nil => cases h4
    | cons c r => exact ⟨c, r, rfl⟩
  have T := tcons c0 r0
  rw [← hcr] at T
  have hemp : (bStr ds).toList.isEmpty = false := by rw [show (bStr ds).toList = ds from ByteArray.toList_mk _, hcr]; rfl
  have HL := Aside0.mk h4
  obtain ⟨t, ht⟩ : ∃ t, t = bStr ds := ⟨_, rfl⟩
  rw [← ht] at T cv hemp ⊢
  obtain ⟨-, tp, tn, tz, t0, tt⟩ := T
  clear ht tt t0 hcr hx h4 hsz hW hG hg hb hcell
  go_enter Tryz.func77, Tryz.ntmps77
  go_wp2
  go_loop [101, 13, 12] (fun i n u => ∃ k : Nat, k ≤ 4 ∧ i = .int .i64 k ∧ n = .int .u64 (hexV4 (ds.take k) 0 : Nat) ∧ u = .bool false) (fun i n u => 4 - (intOf i).toNat)
  case atStart => exact ⟨0, by omega, rfl, rfl, rfl⟩
  case round =>
    obtain ⟨k, hk, rfl, rfl, rfl⟩ := hrel
    by_cases hlt : k < 4
    · have hkl : k < ds.length := by rw [HL.out]; exact hlt
      have hce := HC.out k hkl
      obtain ⟨h1, h2, h3, h5⟩ := HV.out k hkl
      obtain ⟨v, hv⟩ : ∃ v, v = hexV4 (ds.take k) 0 := ⟨_, rfl⟩
      obtain ⟨v', hv'⟩ : ∃ v, v = hexV4 (ds.take (k + 1)) 0 := ⟨_, rfl⟩
      obtain ⟨c, hc⟩ : ∃ c, c = ds[k]'hkl := ⟨_, rfl⟩
      rw [← hc] at h1 h2 hce
      rw [← hv] at h2 h3
      rw [← hv'] at h2 h5
      rw [← hv]
      have HV2 := Aside0.mk hv'
      have HE := Aside0.mk h2
      clear hv hv' hc
      unfold hexL at h1
      unfold hexD at h2
      obtain ⟨x, hxx⟩ : ∃ x, x = c.toNat := ⟨_, rfl⟩
      rw [← hxx] at h1 h2 hce
      clear hxx
      have hm : IntKind.u64.wrap ((v : Int) * 16) = (v : Int) * 16 := by rw [IntKind.wrap_u64]; omega
      have hcut : ¬ ((1152921504606846976 : Int) ≤ (v : Int)) := by omega
      simp only [Bool.or_eq_true, Bool.and_eq_true, decide_eq_true_eq] at h1
      have hlt' : (k : Int) < 4 := by omega
      have hne95 : ((x : Int) == 95) = false := by rw [beq_eq_false_iff_ne]; omega
      rcases h1 with ⟨ha, hb⟩ | ⟨ha, hb⟩
      · rw [if_pos hb] at h2
        have q1 : (48 : Int) ≤ (x : Int) := by omega
        have q2 : (x : Int) ≤ 57 := by omega
        have q3 : IntKind.u8.wrap ((x : Int) - 48) = (x : Int) - 48 := by rw [IntKind.wrap_u8]; omega
        have q4 : ¬ ((16 : Int) ≤ (x : Int) - 48) := by omega
        have q5 : IntKind.u64.wrap ((x : Int) - 48) = (x : Int) - 48 := by rw [IntKind.wrap_u64]; omega
        have q6 : IntKind.u64.wrap ((v : Int) * 16 + ((x : Int) - 48)) = (v' : Int) := by rw [IntKind.wrap_u64]; omega
        have q7 : ¬ ((v' : Int) < (v : Int) * 16) := by omega
        have q8 : ¬ ((65535 : Int) < (v' : Int)) := by omega
        clear h2 h3 h5 ha hb
        go_wp2
        go_round
        case rel => exact ⟨k + 1, hlt, by go_num, by rw [HV2.out], rfl⟩
        case measure => simp [intOf]; omega
      · rw [if_neg (by omega)] at h2
        have Q : Aside0 (∀ d : Int, d = (x : Int) - 87 → IntKind.u64.wrap ((v : Int) * 16 + d) = (v' : Int)) := ⟨fun d hd => by rw [IntKind.wrap_u64]; omega⟩
        have q7 : ¬ ((v' : Int) < (v : Int) * 16) := by omega
        have q8 : ¬ ((65535 : Int) < (v' : Int)) := by omega
        have HAB : Aside0 (97 ≤ x ∧ x ≤ 102) := ⟨ha, hb⟩
        have hx6 : x = 97 ∨ x = 98 ∨ x = 99 ∨ x = 100 ∨ x = 101 ∨ x = 102 := by omega
        clear h2 h3 h5 ha hb
        rcases hx6 with rfl | rfl | rfl | rfl | rfl | rfl
        all_goals
          first | (have q6 := Q.out 10 (by omega); have hce2 : W.cell? ⟨g, k, none⟩ = some (.int .u8 97) := hce) | (have q6 := Q.out 11 (by omega); have hce2 : W.cell? ⟨g, k, none⟩ = some (.int .u8 98) := hce) | (have q6 := Q.out 12 (by omega); have hce2 : W.cell? ⟨g, k, none⟩ = some (.int .u8 99) := hce) | (have q6 := Q.out 13 (by omega); have hce2 : W.cell? ⟨g, k, none⟩ = some (.int .u8 100) := hce) | (have q6 := Q.out 14 (by omega); have hce2 : W.cell? ⟨g, k, none⟩ = some (.int .u8 101) := hce) | (have q6 := Q.out 15 (by omega); have hce2 : W.cell? ⟨g, k, none⟩ = some (.int .u8 102) := hce)
          clear hce HAB
          have p1 : ((1152921504606846976 : Int) ≤ (v : Int)) = False := eq_false hcut
          have p2 : ((v' : Int) < (v : Int) * 16) = False := eq_false q7
          have p3 : ((65535 : Int) < (v' : Int)) = False := eq_false q8
          clear hcut q7 q8
          clear hne95
          go_wp2_with fail
          refine (lower_any _ _ (by decide) (by decide)).mono ?_
          rintro e w1 ⟨rfl, rfl⟩
          go_wp2_with fail
          refine (lower_any _ _ (by decide) (by decide)).mono ?_
          rintro e w1 ⟨rfl, rfl⟩
          go_wp2_with fail
          refine (lower_any _ _ (by decide) (by decide)).mono ?_
          rintro e w1 ⟨rfl, rfl⟩
          go_wp2
          go_round
          case rel => exact ⟨k + 1, hlt, by go_num, by rw [HV2.out], rfl⟩
          case measure => simp [intOf]; omega
    · obtain rfl : k = 4 := by omega
      have HD : Aside0 (ds.take 4 = ds) := ⟨List.take_of_length_le (by have := HL.out; omega)⟩
      go_wp2
      go_ret2
      exact ⟨by rw [HD.out]; rfl, HB.out⟩
theorem puint_any (ds : Bs) (w : World) (h4 : ds.length = 4) (hx : ∀ c ∈ ds, hexL c = true) :
    Calls Tryz.prog 57 #[.string (bStr ds), .int .i64 16, .int .i64 16] w fun e w' => e = .returned (.tuple #[.int .u64 (hexV4 ds 0 : Nat), .nilIface]) ∧ Below w.heap.size w w' := by
  have HP := Aside0.mk (puint_in ds w h4 hx)
  obtain ⟨v, hv⟩ : ∃ v, v = hexV4 ds 0 := ⟨_, rfl⟩
  obtain ⟨t, ht⟩ : ∃ t, t = bStr ds := ⟨_, rfl⟩
  rw [← hv, ← ht] at HP ⊢
  clear hv ht h4 hx
  go_enter Tryz.func57, Tryz.ntmps57
  go_wp2_with fail
  refine HP.out.mono ?_
  rintro e w1 ⟨rfl, hb⟩
  have HB := Aside0.mk hb
  clear hb
  go_wp2
  go_ret2
  exact ⟨rfl, HB.out⟩
theorem isSur_any (x : Nat) (w : World) (hx : x < 65536) :
    Calls Tryz.prog 58 #[.int .i32 (x : Int)] w fun e w' => e = .returned (.bool (isSur x)) ∧ w = w' := by
  have HI : Aside0 (isSur x = decide (55296 ≤ x ∧ x < 57344)) := ⟨by unfold isSur; simp [Bool.decide_and]⟩
  rw [HI.out]
  clear HI
  by_cases h1 : 55296 ≤ x
  · have q1 : (55296 : Int) ≤ (x : Int) := by omega
    by_cases h2 : x < 57344
    · have q2 : (x : Int) < 57344 := by omega
      rw [decide_eq_true ⟨h1, h2⟩]
      clear h1 h2 hx
      go_enter Tryz.func58, Tryz.ntmps58
      go_wp2
      go_ret
      exact ⟨rfl, rfl⟩
    · have q2 : ¬ ((x : Int) < 57344) := by omega
      rw [decide_eq_false (by omega)]
      clear h1 h2 hx
      go_enter Tryz.func58, Tryz.ntmps58
      go_wp2
      go_ret
      exact ⟨rfl, rfl⟩
  · have q1 : ¬ ((55296 : Int) ≤ (x : Int)) := by omega
    rw [decide_eq_false (by omega)]
    clear h1 hx
    go_enter Tryz.func58, Tryz.ntmps58
    go_wp2
    go_ret
    exact ⟨rfl, rfl⟩
end Go.Proofs.YtgldcjmdjhghpaaGreatDoor
