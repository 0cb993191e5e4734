/-
  fastjson's Value.Bool, Array, Type, StringBytes: their contracts, over the cells of one value.
  fastjson's Value.StringBytes: its contract.
  jwsbb.headerGet of a header that bears an error; the readers over it (HeaderHas, HeaderGetString, HeaderGetBool): their contracts there.
  The fields of an object as they lie in cells; what the readers need of a value (Leaf). No walk.
  A text with its escapes undone is no longer than it was. No walk.
-/
import Derived.Test.YtgldcjmdjhghpaaGreatDoorUe
import Derived.Test.YtgldcjmdjhghpaaGreatDoorQh
namespace Go.Proofs.YtgldcjmdjhghpaaGreatDoor
open Go.RowKit Go.Proofs.YtgldcjmdjhghpaaGreatDoorW.PrintWords Go.ChangeShapes Go.WideShapes
set_option linter.unusedVariables false
set_option linter.unusedSimpArgs false
set_option maxRecDepth 100000
theorem vtype_plain (w : World) (b o : Nat) (k : Int) (hk : k = 0 ∨ k = 1 ∨ k = 2 ∨ k = 3 ∨ k = 4 ∨ k = 5 ∨ k = 6) (h4 : w.cell? ⟨b, o + 4, none⟩ = some (.int .i64 k)) :
    Calls Tryz.prog 41 #[.pointer (some ⟨b, o, none⟩)] w fun e w' => e = .returned (.int .i64 k) ∧ w = w' := by
  rcases hk with rfl | rfl | rfl | rfl | rfl | rfl | rfl
  all_goals
    go_enter Tryz.func41, Tryz.ntmps41
    go_wp2
    go_ret
    exact ⟨rfl, rfl⟩
/-- A text in a value's cells: raw, or with its escapes undone. -/
def StrAt (w : World) (b o : Nat) (raw : Bs) : Prop :=
  (w.cell? ⟨b, o + 3, none⟩ = some (.string (bStr raw)) ∧ w.cell? ⟨b, o + 4, none⟩ = some (.int .i64 7)) ∨ (w.cell? ⟨b, o + 3, none⟩ = some (.string (bStr (unesc raw))) ∧ w.cell? ⟨b, o + 4, none⟩ = some (.int .i64 3))
/-- A text's cells, once it has been read. -/
def StrDone (w : World) (b o : Nat) (raw : Bs) : Prop := w.cell? ⟨b, o + 3, none⟩ = some (.string (bStr (unesc raw))) ∧ w.cell? ⟨b, o + 4, none⟩ = some (.int .i64 3)
theorem vtype_raw (w : World) (b o : Nat) (raw : Bs) (hT : blkT w b 106) (hl : raw.length ≤ 900000000000) (hw : Well raw) (h3 : w.cell? ⟨b, o + 3, none⟩ = some (.string (bStr raw))) (h4 : w.cell? ⟨b, o + 4, none⟩ = some (.int .i64 7)) :
    Calls Tryz.prog 41 #[.pointer (some ⟨b, o, none⟩)] w fun e w' => e = .returned (.int .i64 3) ∧ ∃ w1, Below w.heap.size w w1 ∧ w' = (w1.setCell ⟨b, o + 3, none⟩ (.string (bStr (unesc raw)))).setCell ⟨b, o + 4, none⟩ (.int .i64 3) := by
  have HU := Aside0.mk (unescBE_any raw w hl hw)
  have hlt := blkT_lt hT
  have f3 := fun o => blkT_frozen hT o
  obtain ⟨t, ht⟩ : ∃ t, t = bStr raw := ⟨_, rfl⟩
  obtain ⟨u, hu⟩ : ∃ u, u = bStr (unesc raw) := ⟨_, rfl⟩
  rw [← ht, ← hu] at HU
  rw [← ht] at h3
  rw [← hu]
  have HF := Aside0.mk (And.intro (f3 (o + 3)) (f3 (o + 4)))
  clear ht hu hw hl hT f3
  go_enter Tryz.func41, Tryz.ntmps41
  go_wp2_with fail
  refine HU.out.mono ?_
  rintro e w1 ⟨rfl, hb⟩
  have j3 : w1.cell? ⟨b, o + 3, none⟩ = some (.string t) := (hb.cell (p := ⟨b, o + 3, none⟩) hlt).trans h3
  have j4 : w1.cell? ⟨b, o + 4, none⟩ = some (.int .i64 7) := (hb.cell (p := ⟨b, o + 4, none⟩) hlt).trans h4
  have z3 : w1.frozen? ⟨b, o + 3, none⟩ = false := (hb.frozen (p := ⟨b, o + 3, none⟩) hlt).trans HF.out.1
  have z4 : w1.frozen? ⟨b, o + 4, none⟩ = false := (hb.frozen (p := ⟨b, o + 4, none⟩) hlt).trans HF.out.2
  have HB := Aside0.mk hb
  clear hb h3 h4
  go_wp2
  go_ret
  exact ⟨rfl, w1, HB.out, rfl⟩
end Go.Proofs.YtgldcjmdjhghpaaGreatDoor
namespace Go.Proofs.YtgldcjmdjhghpaaGreatDoor
open Go.RowKit Go.Proofs.YtgldcjmdjhghpaaGreatDoorW.PrintWords Go.ChangeShapes Go.WideShapes
set_option linter.unusedVariables false
set_option linter.unusedSimpArgs false
set_option maxRecDepth 100000
/-- The cells of a value that a reading of its text may set. -/
def TxtCells (b o : Nat) : CellSet := fun b' o' => b' = b ∧ (o' = o + 3 ∨ o' = o + 4)
theorem vbytes_no (w : World) (b o : Nat) (k : Int) (hk : k = 0 ∨ k = 1 ∨ k = 2 ∨ k = 4 ∨ k = 5 ∨ k = 6) (h4 : w.cell? ⟨b, o + 4, none⟩ = some (.int .i64 k)) :
    Calls Tryz.prog 32 #[.pointer (some ⟨b, o, none⟩)] w fun e w' => ∃ g, e = .returned (.tuple #[.slice none 0 0, errP g]) ∧ Below w.heap.size w w' := by
  have HT := Aside0.mk (vtype_plain w b o k (by omega) h4)
  clear h4
  rcases hk with rfl | rfl | rfl | rfl | rfl | rfl
  all_goals
    go_enter Tryz.func32, Tryz.ntmps32
    go_wp2_with fail
    refine HT.out.mono ?_
    rintro e w1 ⟨rfl, rfl⟩
    go_wp2_with fail
    refine (errNew_b _ _).mono ?_
    rintro e w1 ⟨rfl, hE⟩
    have HE := Aside0.mk hE
    clear hE
    go_wp2
    go_ret2
    exact ⟨_, rfl, HE.out⟩
theorem vbytes_yes (w : World) (b o : Nat) (raw : Bs) (hT : blkT w b 106) (hl : raw.length ≤ 900000000000) (hul : (unesc raw).length ≤ 1000000000000) (hw : Well raw) (hS : StrAt w b o raw) :
    Calls Tryz.prog 32 #[.pointer (some ⟨b, o, none⟩)] w fun e w' => ∃ g cap, e = .returned (.tuple #[.slice (some ⟨g, 0, none⟩) (unesc raw).length cap, .nilIface]) ∧ BufAt w.heap.size w' g cap (unesc raw) ∧ StrDone w' b o raw ∧ Upd w w' (TxtCells b o) := by
  have hlt := blkT_lt hT
  rcases hS with ⟨h3, h4⟩ | ⟨h3, h4⟩
  · have HTy := Aside0.mk (vtype_raw w b o raw hT hl hw h3 h4)
    have HS2 := Aside0.mk (fun w => s2b_any w (unesc raw) hul)
    have H34 := Aside0.mk (And.intro h3 h4)
    obtain ⟨q, hq⟩ : ∃ q, q = unesc raw := ⟨_, rfl⟩
    rw [← hq] at HTy HS2 ⊢
    have HQ := Aside0.mk hq
    obtain ⟨u, hu⟩ : ∃ u, u = bStr q := ⟨_, rfl⟩
    rw [← hu] at HTy HS2
    have HU := Aside0.mk hu
    obtain ⟨l, hl2⟩ : ∃ l, l = q.length := ⟨_, rfl⟩
    rw [← hl2] at HS2 ⊢
    clear hq hu hl2 h3 h4 hl hul hw hT
    go_enter Tryz.func32, Tryz.ntmps32
    go_wp2_with fail
    refine HTy.out.mono ?_
    rintro e w2 ⟨rfl, w1, hb, hw2⟩
    have hlt1 : b < w1.heap.size := Nat.lt_of_lt_of_le hlt hb.size
    have c3 : w1.cell? ⟨b, o + 3, none⟩ = some (.string (bStr raw)) := (hb.cell (p := ⟨b, o + 3, none⟩) hlt).trans H34.out.1
    have c4 : w1.cell? ⟨b, o + 4, none⟩ = some (.int .i64 7) := (hb.cell (p := ⟨b, o + 4, none⟩) hlt).trans H34.out.2
    have k3 : w2.cell? ⟨b, o + 3, none⟩ = some (.string u) := by
      rw [hw2, World.cell?_setCell_other _ ⟨b, o + 4, none⟩ ⟨b, o + 3, none⟩ _ (by simp)]
      exact World.cell?_setCell_same w1 ⟨b, o + 3, none⟩ _ c3
    have k4 : w2.cell? ⟨b, o + 4, none⟩ = some (.int .i64 3) := by
      rw [hw2]
      exact World.cell?_setCell_same _ ⟨b, o + 4, none⟩ _ ((World.cell?_setCell_other _ ⟨b, o + 3, none⟩ ⟨b, o + 4, none⟩ _ (by simp)).trans c4)
    have hU : Upd w w2 (TxtCells b o) := by
      rw [hw2]
      exact (Upd.of_below hb (TxtCells b o)).trans ((Upd.setCell w1 b (o + 3) _ (C := TxtCells b o) ⟨rfl, .inl rfl⟩).trans (Upd.setCell _ b (o + 4) _ (C := TxtCells b o) ⟨rfl, .inr rfl⟩) (fun _ _ _ h => h) (fun _ _ _ h => h)) (fun _ _ _ h => h) (fun _ _ _ h => h)
    have hlt2 : b < w2.heap.size := Nat.lt_of_lt_of_le hlt hU.size
    have HK := Aside0.mk (And.intro k3 (And.intro k4 (And.intro hU hlt2)))
    clear hb hw2 c3 c4 k4 hU hlt1 hlt hlt2
    go_wp2_with fail
    refine (HS2.out _).mono ?_
    rintro e w3 ⟨g, cap, rfl, hB, hb⟩
    have HR : Aside0 (BufAt w.heap.size w3 g cap q ∧ StrDone w3 b o raw ∧ Upd w w3 (TxtCells b o)) := ⟨by
      obtain ⟨j3, j4, hU, hlt2⟩ := HK.out
      refine ⟨⟨Nat.le_trans hU.size hB.le, hB.lt, hB.len, hB.cm, hB.is, hB.fr, hB.at_⟩, ⟨?_, ?_⟩, hU.trans (Upd.of_below hb (fun _ _ => False)) (fun _ _ _ h => h) (fun _ _ _ h => h.elim)⟩
      · rw [hb.cell (p := ⟨b, o + 3, none⟩) hlt2, j3, HU.out, HQ.out]
      · exact (hb.cell (p := ⟨b, o + 4, none⟩) hlt2).trans j4⟩
    clear hB hb
    go_wp2
    go_ret2
    exact ⟨g, cap, rfl, HR.out.1, HR.out.2.1, HR.out.2.2⟩
  · have HTy := Aside0.mk (vtype_plain w b o 3 (by omega) h4)
    have HS2 := Aside0.mk (s2b_any w (unesc raw) hul)
    have H34 := Aside0.mk (And.intro h3 (And.intro h4 hlt))
    obtain ⟨q, hq⟩ : ∃ q, q = unesc raw := ⟨_, rfl⟩
    rw [← hq] at HS2 h3 ⊢
    have HQ := Aside0.mk hq
    obtain ⟨u, hu⟩ : ∃ u, u = bStr q := ⟨_, rfl⟩
    rw [← hu] at HS2 h3
    obtain ⟨l, hl2⟩ : ∃ l, l = q.length := ⟨_, rfl⟩
    rw [← hl2] at HS2 ⊢
    clear hq hu hl2 h4 hl hul hw hT hlt
    go_enter Tryz.func32, Tryz.ntmps32
    go_wp2_with fail
    refine HTy.out.mono ?_
    rintro e w2 ⟨rfl, rfl⟩
    go_wp2_with fail
    refine HS2.out.mono ?_
    rintro e w3 ⟨g, cap, rfl, hB, hb⟩
    have HR : Aside0 (BufAt w.heap.size w3 g cap q ∧ StrDone w3 b o raw ∧ Upd w w3 (TxtCells b o)) := ⟨by
      obtain ⟨j3, j4, hlt⟩ := H34.out
      refine ⟨hB, ⟨(hb.cell (p := ⟨b, o + 3, none⟩) hlt).trans j3, (hb.cell (p := ⟨b, o + 4, none⟩) hlt).trans j4⟩, Upd.of_below hb _⟩⟩
    clear hB hb
    go_wp2
    go_ret2
    exact ⟨g, cap, rfl, HR.out.1, HR.out.2.1, HR.out.2.2⟩
end Go.Proofs.YtgldcjmdjhghpaaGreatDoor
namespace Go.Proofs.YtgldcjmdjhghpaaGreatDoor
open Go.RowKit Go.Proofs.YtgldcjmdjhghpaaGreatDoorW.PrintWords Go.ChangeShapes Go.WideShapes
set_option linter.unusedVariables false
set_option linter.unusedSimpArgs false
set_option maxRecDepth 100000
theorem ta_one {P : Program} {t : TypeId} {D : TypeDesc} (hu : P.underlying t = some D) (hni : ∀ m, D ≠ .interface m) (v : Value) (xT : TypeId) (w : World) :
    (Instr.typeAssert (.iface t v) xT t false).run P w = .ok v w := by
  cases D with
  | interface m => exact absurd rfl (hni m)
  | _ => simp [Instr.typeAssert, run_underlying hu]
theorem hget_err (w : World) (g k : Nat) (key : ByteArray) (hat : w.heap[g]? = some (.cells #[.pointer none, errP k] 93)) :
    Calls Tryz.prog 31 #[hdrV g, .string key] w fun e w' => e = .returned (.tuple #[.pointer none, errP k]) ∧ Below w.heap.size w w' := by
  have ht := fun (v : Value) (xT : TypeId) (w : World) => ta_one (P := Tryz.prog) Tryz.underlying91 (by simp) v xT w
  have h0 : w.cell? ⟨g, 0, none⟩ = some (.pointer none) := by rw [cell_of hat]; rfl
  have h1 : w.cell? ⟨g, 1, none⟩ = some (.iface 116 (.pointer (some ⟨k, 0, none⟩))) := by rw [cell_of hat]; rfl
  clear hat
  unfold hdrV errP
  go_enter Tryz.func31, Tryz.ntmps31
  go_wp2
  go_quiet (fail)
  go_wp2
  go_ret2
  exact ⟨rfl, ((Hold.start w).drewN _).below⟩
theorem hhas_err (w : World) (g k : Nat) (key : ByteArray) (hat : w.heap[g]? = some (.cells #[.pointer none, errP k] 93)) :
    Calls Tryz.prog 25 #[hdrV g, .string key] w fun e w' => e = .returned (.bool false) ∧ Below w.heap.size w w' := by
  have HG := Aside0.mk (hget_err w g k key hat)
  clear hat
  go_enter Tryz.func25, Tryz.ntmps25
  go_wp2_with fail
  refine HG.out.mono ?_
  rintro e w1 ⟨rfl, hb⟩
  have HB := Aside0.mk hb
  clear hb
  unfold errP
  go_wp2
  go_ret
  exact ⟨rfl, HB.out⟩
theorem hstr_err (w : World) (g k : Nat) (key : ByteArray) (hat : w.heap[g]? = some (.cells #[.pointer none, errP k] 93)) :
    Calls Tryz.prog 19 #[hdrV g, .string key] w fun e w' => e = .returned (.tuple #[.string ByteArray.empty, errP k]) ∧ Below w.heap.size w w' := by
  have HG := Aside0.mk (hget_err w g k key hat)
  clear hat
  go_enter Tryz.func19, Tryz.ntmps19
  go_wp2_with fail
  refine HG.out.mono ?_
  rintro e w1 ⟨rfl, hb⟩
  have HB := Aside0.mk hb
  clear hb
  unfold errP
  go_wp2
  go_ret2
  exact ⟨rfl, HB.out⟩
end Go.Proofs.YtgldcjmdjhghpaaGreatDoor
namespace Go.Proofs.YtgldcjmdjhghpaaGreatDoor
open Go.RowKit Go.Proofs.YtgldcjmdjhghpaaGreatDoorW.PrintWords Go.ChangeShapes Go.WideShapes
set_option linter.unusedVariables false
set_option linter.unusedSimpArgs false
/-- The fields of an object, as they lie: their keys, and where their values are. -/
structure KvAt (w : World) (b o : Nat) (un : Bool) (A : Option Addr) (n c : Nat) (ks : List Bs) (ps : List (Nat × Nat)) : Prop where
  ty : blkT w b 106
  c0 : w.cell? ⟨b, o, none⟩ = some (.slice A n c)
  c1 : w.cell? ⟨b, o + 1, none⟩ = some (.bool un)
  kl : ks.length = n
  pl : ps.length = n
  le : n ≤ c
  cm : c ≤ maxLen
  el : 0 < n → ∃ g, A = some ⟨g, 0, none⟩ ∧ blkT w g 125 ∧ (∀ (i : Nat) (q : Nat × Nat), ps[i]? = some q → w.cell? ⟨g, 2 * i + 1, none⟩ = some (ptr q)) ∧ ∀ (i : Nat) (k : Bs), ks[i]? = some k → w.cell? ⟨g, 2 * i, none⟩ = some (.string (bStr k))
/-- The cells that looking for a name may set. -/
def KeyC (A : Option Addr) (n b o : Nat) : CellSet := fun b' o' => (0 < n ∧ A = some ⟨b', 0, none⟩ ∧ o' % 2 = 0) ∨ (b' = b ∧ o' = o + 1)
theorem kv_not_val {w : World} {b : Nat} (h : blkT w b 125) (h' : blkT w b 106) : False := by
  have := blkT_uniq h h'
  cases this
theorem TreeAt.kvs {w : World} {S : CellSet} {b o : Nat} {kvs : List (Bs × JV)} (h : TreeAt w S b o (.obj kvs)) : o % 5 = 0 ∧ w.cell? ⟨b, o + 4, none⟩ = some (.int .i64 1) ∧ ∃ A c ps, KvAt w b o false A kvs.length c (kvs.map (·.1)) ps ∧ S b o ∧ (∀ g, 0 < kvs.length → A = some ⟨g, 0, none⟩ → S g 0) ∧ ∀ (i : Nat) (q : Nat × Nat) (p : Bs × JV), ps[i]? = some q → kvs[i]? = some p → TreeAt w S q.1 q.2 p.2 := by
  cases h with
  | @obj b o A c ps kvs hv h4 h0 h1 hl hc hm hA hk =>
    refine ⟨hv.al, h4, A, c, ps, ⟨hv.ty, h0, h1, by simp, hl, hc, hm, fun hn => ?_⟩, hv.at0, fun g hn he => ?_, hk⟩
    rotate_left
    · obtain ⟨g', e, hg, hp, hs⟩ := hA hn
      rw [he] at e
      injection e with e
      injection e with e
      rw [e]
      exact (hs 0 _ (List.getElem?_eq_getElem hn)).1
    obtain ⟨g, e, hg, hp, hs⟩ := hA hn
    refine ⟨g, e, hg, fun i q hq => (hp i q hq).2, fun i k hk => ?_⟩
    rw [List.getElem?_map] at hk
    cases hi : kvs[i]? with
    | none => rw [hi] at hk; cases hk
    | some p =>
      rw [hi] at hk
      injection hk with hk
      rw [← hk]
      exact (hs i p hi).2
/-- What the readers need of a value. -/
inductive Leaf (w : World) (B : Nat) : Nat → Nat → JV → Prop
  | str {b o : Nat} {raw : Bs} (hB : B ≤ b) (hT : blkT w b 106) (al : o % 5 = 0) (hs : StrAt w b o raw) : Leaf w B b o (.str raw)
  | num {b o : Nat} {s : Bs} (hT : blkT w b 106) (al : o % 5 = 0) (h3 : w.cell? ⟨b, o + 3, none⟩ = some (.string (bStr s))) (h4 : w.cell? ⟨b, o + 4, none⟩ = some (.int .i64 4)) : Leaf w B b o (.num s)
  | tru {b o : Nat} (hT : blkT w b 106) (al : o % 5 = 0) (h4 : w.cell? ⟨b, o + 4, none⟩ = some (.int .i64 5)) : Leaf w B b o .tru
  | fls {b o : Nat} (hT : blkT w b 106) (al : o % 5 = 0) (h4 : w.cell? ⟨b, o + 4, none⟩ = some (.int .i64 6)) : Leaf w B b o .fls
  | nul {b o : Nat} (hT : blkT w b 106) (al : o % 5 = 0) (h4 : w.cell? ⟨b, o + 4, none⟩ = some (.int .i64 0)) : Leaf w B b o .nul
  | arr {b o : Nat} {A : Option Addr} {c : Nat} {ps : List (Nat × Nat)} {xs : List JV} (hT : blkT w b 106) (al : o % 5 = 0) (h4 : w.cell? ⟨b, o + 4, none⟩ = some (.int .i64 2)) (h2 : w.cell? ⟨b, o + 2, none⟩ = some (.slice A xs.length c)) (hl : ps.length = xs.length) (hc : xs.length ≤ c) (hm : c ≤ maxLen)
      (hA : 0 < xs.length → ∃ g, A = some ⟨g, 0, none⟩ ∧ blkT w g 74 ∧ ∀ (i : Nat) (q : Nat × Nat), ps[i]? = some q → w.cell? ⟨g, i, none⟩ = some (ptr q)) (hk : ∀ (i : Nat) (q : Nat × Nat) (x : JV), ps[i]? = some q → xs[i]? = some x → Leaf w B q.1 q.2 x) : Leaf w B b o (.arr xs)
  | obj {b o : Nat} {kvs : List (Bs × JV)} (hT : blkT w b 106) (al : o % 5 = 0) (h4 : w.cell? ⟨b, o + 4, none⟩ = some (.int .i64 1)) : Leaf w B b o (.obj kvs)
/-- A step that leaves alone what the readers look at. -/
structure Calm (w w' : World) (C : CellSet) : Prop where
  upd : Upd w w' C
  val : ∀ b o j, blkT w b 106 → o % 5 = 0 → j < 5 → j ≠ 1 → ¬ C b (o + j)
  ptr : ∀ b o, blkT w b 74 → ¬ C b o
theorem Calm.cell {w w' : World} {C : CellSet} (h : Calm w w' C) {b o j : Nat} (hT : blkT w b 106) (al : o % 5 = 0) (hj : j < 5) (h1 : j ≠ 1) {v : Value} (hc : w.cell? ⟨b, o + j, none⟩ = some v) : w'.cell? ⟨b, o + j, none⟩ = some v :=
  (h.upd.cell b (o + j) (blkT_lt hT) (h.val b o j hT al hj h1)).trans hc
theorem Calm.blk {w w' : World} {C : CellSet} (h : Calm w w' C) {b : Nat} (hT : blkT w b 106) : blkT w' b 106 := h.upd.blkT (0 + 0) (h.val b 0 0 hT rfl (by omega) (by omega)) hT
theorem Calm.blkP {w w' : World} {C : CellSet} (h : Calm w w' C) {b : Nat} (hT : blkT w b 74) : blkT w' b 74 := h.upd.blkT 0 (h.ptr b 0 hT) hT
theorem Calm.str {w w' : World} {C : CellSet} (h : Calm w w' C) {b o : Nat} {raw : Bs} (hT : blkT w b 106) (al : o % 5 = 0) (hs : StrAt w b o raw) : StrAt w' b o raw := by
  rcases hs with ⟨h3, h4⟩ | ⟨h3, h4⟩
  · exact .inl ⟨h.cell hT al (by omega) (by omega) h3, h.cell hT al (by omega) (by omega) h4⟩
  · exact .inr ⟨h.cell hT al (by omega) (by omega) h3, h.cell hT al (by omega) (by omega) h4⟩
theorem Calm.of_below {w w' : World} (h : Below w.heap.size w w') : Calm w w' (fun _ _ => False) := ⟨Upd.of_below h _, fun _ _ _ _ _ _ _ h => h, fun _ _ _ h => h⟩
theorem Calm.key {w w' : World} {b o n c : Nat} {un : Bool} {A : Option Addr} {ks : List Bs} {ps : List (Nat × Nat)} (al : o % 5 = 0) (hV : KvAt w b o un A n c ks ps) (h : Upd w w' (KeyC A n b o)) : Calm w w' (KeyC A n b o) := by
  have hkv : ∀ b', 0 < n → A = some ⟨b', 0, none⟩ → blkT w b' 125 := fun b' hn e => by
    obtain ⟨g', e', hg', _⟩ := hV.el hn
    rw [e] at e'
    injection e' with e'
    injection e' with e'
    rw [e']
    exact hg'
  refine ⟨h, fun b' o' j hb ho hj h1 => ?_, fun b' o' hb => ?_⟩
  · rintro (⟨hn, hk, _⟩ | ⟨_, he⟩)
    · exact kv_not_val (hkv _ hn hk) hb
    · omega
  · rintro (⟨hn, hk, _⟩ | ⟨rfl, _⟩)
    · have := blkT_uniq (hkv _ hn hk) hb
      cases this
    · have := blkT_uniq hV.ty hb
      cases this
theorem TreeAt.leaf {w w' : World} {S C : CellSet} {B : Nat} (hS : ∀ b o, S b o → B ≤ b) (h : Calm w w' C) {b o : Nat} {x : JV} (ht : TreeAt w S b o x) : Leaf w' B b o x := by
  induction ht with
  | str hv h3 h4 => exact .str (hS _ _ hv.at0) (h.blk hv.ty) hv.al (h.str hv.ty hv.al (.inl ⟨h3, h4⟩))
  | num hv h3 h4 => exact .num (h.blk hv.ty) hv.al (h.cell hv.ty hv.al (by omega) (by omega) h3) (h.cell hv.ty hv.al (by omega) (by omega) h4)
  | tru hv h4 => exact .tru (h.blk hv.ty) hv.al (h.cell hv.ty hv.al (by omega) (by omega) h4)
  | fls hv h4 => exact .fls (h.blk hv.ty) hv.al (h.cell hv.ty hv.al (by omega) (by omega) h4)
  | nul hv h4 => exact .nul (h.blk hv.ty) hv.al (h.cell hv.ty hv.al (by omega) (by omega) h4)
  | @arr b o A c ps xs hv h4 h2 hl hcc hm hA hk ih =>
    refine .arr (h.blk hv.ty) hv.al (h.cell hv.ty hv.al (by omega) (by omega) h4) (h.cell hv.ty hv.al (by omega) (by omega) h2) hl hcc hm (fun hn => ?_) ih
    obtain ⟨g, e, hg, hp⟩ := hA hn
    exact ⟨g, e, h.blkP hg, fun i q hq => (h.upd.cell g i (blkT_lt hg) (h.ptr g i hg)).trans (hp i q hq).2⟩
  | @obj b o A c ps kvs hv h4 h0 h1 hl hcc hm hA hk ih => exact .obj (h.blk hv.ty) hv.al (h.cell hv.ty hv.al (by omega) (by omega) h4)
theorem Leaf.calm {w w' : World} {C : CellSet} {B : Nat} (h : Calm w w' C) {b o : Nat} {x : JV} (ht : Leaf w B b o x) : Leaf w' B b o x := by
  induction ht with
  | str hB hT al hs => exact .str hB (h.blk hT) al (h.str hT al hs)
  | num hT al h3 h4 => exact .num (h.blk hT) al (h.cell hT al (by omega) (by omega) h3) (h.cell hT al (by omega) (by omega) h4)
  | tru hT al h4 => exact .tru (h.blk hT) al (h.cell hT al (by omega) (by omega) h4)
  | fls hT al h4 => exact .fls (h.blk hT) al (h.cell hT al (by omega) (by omega) h4)
  | nul hT al h4 => exact .nul (h.blk hT) al (h.cell hT al (by omega) (by omega) h4)
  | @arr b o A c ps xs hT al h4 h2 hl hcc hm hA hk ih =>
    refine .arr (h.blk hT) al (h.cell hT al (by omega) (by omega) h4) (h.cell hT al (by omega) (by omega) h2) hl hcc hm (fun hn => ?_) ih
    obtain ⟨g, e, hg, hp⟩ := hA hn
    exact ⟨g, e, h.blkP hg, fun i q hq => (h.upd.cell g i (blkT_lt hg) (h.ptr g i hg)).trans (hp i q hq)⟩
  | obj hT al h4 => exact .obj (h.blk hT) al (h.cell hT al (by omega) (by omega) h4)
theorem Leaf.read {w w' : World} {B b o : Nat} {raw : Bs} (hT : blkT w b 106) (al : o % 5 = 0) (hs : StrAt w b o raw) (hd : StrDone w' b o raw) (hu : Upd w w' (TxtCells b o)) {b' o' : Nat} {x : JV} (ht : Leaf w B b' o' x) : Leaf w' B b' o' x := by
  have hblk : ∀ b1, blkT w b1 106 → blkT w' b1 106 := fun b1 h => hu.blkT (o + 5) (fun hh => by have := hh.2; omega) h
  have hblkP : ∀ b1, blkT w b1 74 → blkT w' b1 74 := fun b1 h => hu.blkT (o + 5) (fun hh => by have := hh.2; omega) h
  have hfar : ∀ b1 o1 j v, blkT w b1 106 → ¬ (b1 = b ∧ o1 = o) → o1 % 5 = 0 → j < 5 → w.cell? ⟨b1, o1 + j, none⟩ = some v → w'.cell? ⟨b1, o1 + j, none⟩ = some v := fun b1 o1 j v h hne ha hj hc =>
    (hu.cell b1 (o1 + j) (blkT_lt h) (fun hh => hne ⟨hh.1, by have := hh.2; omega⟩)).trans hc
  have h4s : w.cell? ⟨b, o + 4, none⟩ = some (.int .i64 7) ∨ w.cell? ⟨b, o + 4, none⟩ = some (.int .i64 3) := by
    rcases hs with ⟨_, h⟩ | ⟨_, h⟩
    · exact .inl h
    · exact .inr h
  have hne : ∀ b1 o1 (k : Int), k ≠ 7 → k ≠ 3 → w.cell? ⟨b1, o1 + 4, none⟩ = some (.int .i64 k) → ¬ (b1 = b ∧ o1 = o) := by
    rintro b1 o1 k h7 h3 hc ⟨rfl, rfl⟩
    rcases h4s with h | h
    · rw [h] at hc
      injection hc with hc
      injection hc with _ hc
      exact h7 hc.symm
    · rw [h] at hc
      injection hc with hc
      injection hc with _ hc
      exact h3 hc.symm
  induction ht with
  | @str b1 o1 raw1 hB1 hT1 al1 hs1 =>
    by_cases he : b1 = b ∧ o1 = o
    · obtain ⟨rfl, rfl⟩ := he
      refine .str hB1 (hblk _ hT1) al1 ?_
      have hq : unesc raw1 = unesc raw := by
        rcases hs1 with ⟨g3, g4⟩ | ⟨g3, g4⟩ <;> rcases hs with ⟨k3, k4⟩ | ⟨k3, k4⟩
        · rw [k3] at g3
          injection g3 with g3
          injection g3 with g3
          rw [bStr_inj.1 g3]
        · rw [k4] at g4
          cases g4
        · rw [k4] at g4
          cases g4
        · rw [k3] at g3
          injection g3 with g3
          injection g3 with g3
          rw [bStr_inj.1 g3]
      exact .inr (by rw [hq]; exact hd)
    · refine .str hB1 (hblk _ hT1) al1 ?_
      rcases hs1 with ⟨g3, g4⟩ | ⟨g3, g4⟩
      · exact .inl ⟨hfar _ _ 3 _ hT1 he al1 (by omega) g3, hfar _ _ 4 _ hT1 he al1 (by omega) g4⟩
      · exact .inr ⟨hfar _ _ 3 _ hT1 he al1 (by omega) g3, hfar _ _ 4 _ hT1 he al1 (by omega) g4⟩
  | num hT1 al1 h3 h4 =>
    have he := hne _ _ _ (by decide) (by decide) h4
    exact .num (hblk _ hT1) al1 (hfar _ _ 3 _ hT1 he al1 (by omega) h3) (hfar _ _ 4 _ hT1 he al1 (by omega) h4)
  | tru hT1 al1 h4 => exact .tru (hblk _ hT1) al1 (hfar _ _ 4 _ hT1 (hne _ _ _ (by decide) (by decide) h4) al1 (by omega) h4)
  | fls hT1 al1 h4 => exact .fls (hblk _ hT1) al1 (hfar _ _ 4 _ hT1 (hne _ _ _ (by decide) (by decide) h4) al1 (by omega) h4)
  | nul hT1 al1 h4 => exact .nul (hblk _ hT1) al1 (hfar _ _ 4 _ hT1 (hne _ _ _ (by decide) (by decide) h4) al1 (by omega) h4)
  | @arr b1 o1 A c ps xs hT1 al1 h4 h2 hl hcc hm hA hk ih =>
    have he := hne _ _ _ (by decide) (by decide) h4
    refine .arr (hblk _ hT1) al1 (hfar _ _ 4 _ hT1 he al1 (by omega) h4) (hfar _ _ 2 _ hT1 he al1 (by omega) h2) hl hcc hm (fun hn => ?_) ih
    obtain ⟨g, e, hg, hp⟩ := hA hn
    refine ⟨g, e, hblkP _ hg, fun i q hq => (hu.cell g i (blkT_lt hg) (fun hh => ?_)).trans (hp i q hq)⟩
    rw [hh.1] at hg
    have := blkT_uniq hT hg
    cases this
  | obj hT1 al1 h4 => exact .obj (hblk _ hT1) al1 (hfar _ _ 4 _ hT1 (hne _ _ _ (by decide) (by decide) h4) al1 (by omega) h4)
theorem KvAt.setKey {w : World} {b o n c g i : Nat} {un : Bool} {A : Option Addr} {ks : List Bs} {ps : List (Nat × Nat)} (h : KvAt w b o un A n c ks ps) (hi : i < n) (hA : A = some ⟨g, 0, none⟩) (k : Bs) : KvAt (w.setCell ⟨g, 2 * i, none⟩ (.string (bStr k))) b o un A n c (ks.set i k) ps := by
  obtain ⟨g', e, hg, hp, hs⟩ := h.el (by omega)
  rw [hA] at e
  injection e with e
  injection e with e
  subst e
  have hne : b ≠ g := fun e => kv_not_val hg (e ▸ h.ty)
  have hu : Upd w (w.setCell ⟨g, 2 * i, none⟩ (.string (bStr k))) (fun b' o' => b' = g ∧ o' = 2 * i) := Upd.setCell w g (2 * i) _ ⟨rfl, rfl⟩
  refine ⟨hu.blkT 0 (fun hh => hne hh.1) h.ty, (hu.cell b o (blkT_lt h.ty) (fun hh => hne hh.1)).trans h.c0, (hu.cell b (o + 1) (blkT_lt h.ty) (fun hh => hne hh.1)).trans h.c1, by rw [List.length_set]; exact h.kl, h.pl, h.le, h.cm, fun hn => ⟨g, hA, hu.blkT 1 (fun hh => by have := hh.2; omega) hg, fun j q hq => (hu.cell g _ (blkT_lt hg) (fun hh => by have := hh.2; omega)).trans (hp j q hq), fun j k' hk' => ?_⟩⟩
  by_cases hj : j = i
  · subst hj
    rw [List.getElem?_set_self (by rw [h.kl]; exact hi)] at hk'
    injection hk' with hk'
    subst hk'
    have hki : j < ks.length := by rw [h.kl]; exact hi
    exact World.cell?_setCell_same w ⟨g, 2 * j, none⟩ _ (hs j _ (List.getElem?_eq_getElem hki))
  · rw [List.getElem?_set_ne (fun e => hj e.symm)] at hk'
    exact (hu.cell g _ (blkT_lt hg) (fun hh => by have := hh.2; omega)).trans (hs j k' hk')
theorem KvAt.setUn {w : World} {b o n c : Nat} {un : Bool} {A : Option Addr} {ks : List Bs} {ps : List (Nat × Nat)} (h : KvAt w b o un A n c ks ps) (v : Bool) : KvAt (w.setCell ⟨b, o + 1, none⟩ (.bool v)) b o v A n c ks ps := by
  have hu : Upd w (w.setCell ⟨b, o + 1, none⟩ (.bool v)) (fun b' o' => b' = b ∧ o' = o + 1) := Upd.setCell w b (o + 1) _ ⟨rfl, rfl⟩
  refine ⟨hu.blkT o (fun hh => by have := hh.2; omega) h.ty, (hu.cell b o (blkT_lt h.ty) (fun hh => by have := hh.2; omega)).trans h.c0, World.cell?_setCell_same w ⟨b, o + 1, none⟩ _ h.c1, h.kl, h.pl, h.le, h.cm, fun hn => ?_⟩
  obtain ⟨g', e, hg, hp, hs⟩ := h.el hn
  have hne : g' ≠ b := fun e => kv_not_val hg (e ▸ h.ty)
  exact ⟨g', e, hu.blkT 0 (fun hh => hne hh.1) hg, fun j q hq => (hu.cell g' _ (blkT_lt hg) (fun hh => hne hh.1)).trans (hp j q hq), fun j k' hk' => (hu.cell g' _ (blkT_lt hg) (fun hh => hne hh.1)).trans (hs j k' hk')⟩
theorem KvAt.on {w w' : World} {b o n c : Nat} {un : Bool} {A : Option Addr} {ks : List Bs} {ps : List (Nat × Nat)} (h : KvAt w b o un A n c ks ps) (hb : Below w.heap.size w w') : KvAt w' b o un A n c ks ps := by
  have hu := Upd.of_below hb (fun _ _ => False)
  refine ⟨hu.blkT 0 (fun h => h) h.ty, (hu.cell b o (blkT_lt h.ty) (fun h => h)).trans h.c0, (hu.cell b (o + 1) (blkT_lt h.ty) (fun h => h)).trans h.c1, h.kl, h.pl, h.le, h.cm, fun hn => ?_⟩
  obtain ⟨g', e, hg, hp, hs⟩ := h.el hn
  exact ⟨g', e, hu.blkT 0 (fun h => h) hg, fun j q hq => (hu.cell g' _ (blkT_lt hg) (fun h => h)).trans (hp j q hq), fun j k' hk' => (hu.cell g' _ (blkT_lt hg) (fun h => h)).trans (hs j k' hk')⟩
/-- Where a name is found among keys. -/
def oIdx (ks : List Bs) (key : Bs) : Option Nat :=
  match (if (92 : UInt8) ∈ key then none else ks.findIdx? (· == key)) with
  | some i => some i
  | none => ks.findIdx? (fun k => unesc k == key)
end Go.Proofs.YtgldcjmdjhghpaaGreatDoor
namespace Go.Proofs.YtgldcjmdjhghpaaGreatDoor
open Go.RowKit Go.Proofs.YtgldcjmdjhghpaaGreatDoorW.PrintWords
set_option linter.unusedVariables false
set_option linter.unusedSimpArgs false
theorem esc_u_len (r : Bs) (p : Bs × Bs) (hp : p = if r.length < 4 then ([92, 117], r)
        else match hexN (r.take 4) 0 with
        | none => ([92, 117], r)
        | some x =>
          if isSur x = false then (utf8 x, r.drop 4)
          else if (r.drop 4).length < 6 ∨ (r.drop 4).take 2 ≠ [92, 117] then ([92, 117] ++ r.take 4, r.drop 4)
          else match hexN (((r.drop 4).drop 2).take 4) 0 with
          | none => ([92, 117] ++ r.take 4, r.drop 4)
          | some y => (utf8 (surr x y), (r.drop 4).drop 6)) : p.1.length + p.2.length ≤ r.length + 2 := by
  by_cases h4 : r.length < 4
  · rw [if_pos h4] at hp
    subst hp
    simp
    omega
  rw [if_neg h4] at hp
  cases hx : hexN (r.take 4) 0 with
  | none =>
    rw [hx] at hp
    subst hp
    simp
    omega
  | some x =>
    rw [hx] at hp
    replace hp : p = if isSur x = false then (utf8 x, r.drop 4)
          else if (r.drop 4).length < 6 ∨ (r.drop 4).take 2 ≠ [92, 117] then ([92, 117] ++ r.take 4, r.drop 4)
          else match hexN (((r.drop 4).drop 2).take 4) 0 with
          | none => ([92, 117] ++ r.take 4, r.drop 4)
          | some y => (utf8 (surr x y), (r.drop 4).drop 6) := hp
    have hd : (r.drop 4).length = r.length - 4 := List.length_drop
    have ht : (r.take 4).length ≤ 4 := List.length_take_le _ _
    by_cases hs : isSur x = false
    · rw [if_pos hs] at hp
      subst hp
      have := utf8_len x
      show (utf8 x).length + (r.drop 4).length ≤ _
      omega
    rw [if_neg hs] at hp
    by_cases h6 : (r.drop 4).length < 6 ∨ (r.drop 4).take 2 ≠ [92, 117]
    · rw [if_pos h6] at hp
      subst hp
      show ([92, 117] ++ r.take 4).length + (r.drop 4).length ≤ _
      rw [List.length_append]
      show 2 + _ + _ ≤ _
      omega
    rw [if_neg h6] at hp
    cases hy : hexN (((r.drop 4).drop 2).take 4) 0 with
    | none =>
      rw [hy] at hp
      subst hp
      show ([92, 117] ++ r.take 4).length + (r.drop 4).length ≤ _
      rw [List.length_append]
      show 2 + _ + _ ≤ _
      omega
    | some y =>
      rw [hy] at hp
      subst hp
      have := utf8_len (surr x y)
      show (utf8 (surr x y)).length + ((r.drop 4).drop 6).length ≤ _
      rw [List.length_drop]
      omega
theorem escStep_len (c : UInt8) (r : Bs) : (escStep c r).1.length + (escStep c r).2.length ≤ r.length + 2 := by
  by_cases h117 : c = 117
  · subst h117
    exact esc_u_len r _ rfl
  have h1 : ∀ o : Bs, o.length ≤ 2 → o.length + r.length ≤ r.length + 2 := fun o ho => by omega
  by_cases a1 : c = 34
  · subst a1; exact h1 [34] (by simp)
  by_cases a2 : c = 92
  · subst a2; exact h1 [92] (by simp)
  by_cases a3 : c = 47
  · subst a3; exact h1 [47] (by simp)
  by_cases a4 : c = 98
  · subst a4; exact h1 [8] (by simp)
  by_cases a5 : c = 102
  · subst a5; exact h1 [12] (by simp)
  by_cases a6 : c = 110
  · subst a6; exact h1 [10] (by simp)
  by_cases a7 : c = 114
  · subst a7; exact h1 [13] (by simp)
  by_cases a8 : c = 116
  · subst a8; exact h1 [9] (by simp)
  have he : escStep c r = ([92, c], r) := by
    unfold escStep
    rw [if_neg a1, if_neg a2, if_neg a3, if_neg a4, if_neg a5, if_neg a6, if_neg a7, if_neg a8, if_neg h117]
  rw [he]
  exact h1 [92, c] (by simp)
theorem unesc_len_both : ∀ n : Nat, (∀ s : Bs, (unescB n s).length ≤ s.length + 1) ∧ (∀ s : Bs, (unescT n s).length ≤ s.length)
  | 0 => ⟨fun s => by rw [unescB]; simp, fun s => by rw [unescT]; exact Nat.le_refl _⟩
  | n + 1 => by
    obtain ⟨hB, hT⟩ := unesc_len_both n
    refine ⟨fun s => ?_, fun s => ?_⟩
    · cases s with
      | nil => rw [unescB]; simp
      | cons c r =>
        rw [unescB, List.length_append, List.length_cons]
        have h1 := escStep_len c r
        have h2 := hT (escStep c r).2
        omega
    · rcases split_at 92 s with h | ⟨p, r, rfl, h⟩
      · rw [unescT_no h]
        exact Nat.le_refl _
      · rw [unescT_at h, List.length_append, List.length_append, List.length_cons]
        have := hB r
        omega
theorem unesc_len (s : Bs) : (unesc s).length ≤ s.length := (unesc_len_both _).2 s
end Go.Proofs.YtgldcjmdjhghpaaGreatDoor
