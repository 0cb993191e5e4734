/-
  A row of pointers of the reader's own: an append; the reading of a list between two of its values. No walk.
  The reading of a list between two of its values. No walk.
  The reading of an object between two of its fields. No walk.
-/
import Derived.Test.YtgldcjmdjhghpaaGreatDoorQd
import Derived.ArgAppend
namespace Go.Proofs.YtgldcjmdjhghpaaGreatDoor
open Go.RowKit Go.Proofs.YtgldcjmdjhghpaaGreatDoorW.PrintWords
set_option linter.unusedVariables false
set_option linter.unusedSimpArgs false
set_option maxRecDepth 100000
structure Ptrs (w : World) (kb : Option Nat) (n c : Nat) (ps : List (Nat × Nat)) : Prop where
  le : n ≤ c
  cm : c ≤ maxLen
  no : kb = none → n = 0 ∧ c = 0
  len : ps.length = n
  sp : ∀ g, kb = some g → ∃ cs, w.heap[g]? = some (.cells cs 74) ∧ cs.size = c ∧ ∀ (i : Nat) (q : Nat × Nat), ps[i]? = some q → cs[i]? = some (ptr q)
theorem Ptrs.nil (w : World) : Ptrs w none 0 0 [] := ⟨Nat.le_refl _, by unfold maxLen; omega, fun _ => ⟨rfl, rfl⟩, rfl, fun g e => by cases e⟩
theorem Ptrs.keep {w w' : World} {kb : Option Nat} {n c : Nat} {ps : List (Nat × Nat)} {C : CellSet} (h : Ptrs w kb n c ps) (hu : Upd w w' C) (hn : ∀ g, kb = some g → ∀ o, ¬ C g o) : Ptrs w' kb n c ps :=
  ⟨h.le, h.cm, h.no, h.len, fun g e => by
    obtain ⟨cs, hg, hs, hp⟩ := h.sp g e
    exact ⟨cs, (hu.blk g (Array.getElem?_eq_some_iff.1 hg).1 (hn g e)).trans hg, hs, hp⟩⟩
theorem Ptrs.lt {w : World} {kb : Option Nat} {n c : Nat} {ps : List (Nat × Nat)} (h : Ptrs w kb n c ps) : ∀ g, kb = some g → g < w.heap.size := fun g e => by
  obtain ⟨cs, hg, _⟩ := h.sp g e
  exact (Array.getElem?_eq_some_iff.1 hg).1
theorem Ptrs.ty {w : World} {kb : Option Nat} {n c : Nat} {ps : List (Nat × Nat)} (h : Ptrs w kb n c ps) : ∀ g, kb = some g → blkT w g 74 := fun g e => by
  obtain ⟨cs, hg, _⟩ := h.sp g e
  exact ⟨cs, hg⟩
theorem infoP : (Tryz.prog.info? 74).map (fun i => (i.zero, i.size, i.bytes)) = some (some (.pointer none), 1, 8) := by kernel_rfl
theorem run_appP {w : World} {kb : Option Nat} {n c : Nat} {ps : List (Nat × Nat)} (h : Ptrs w kb n c ps) (q : Nat × Nat) (hn : n < MaxV) (ty : Nat) :
    ∃ kb' c' w2, (Builtin.append_ #[104, 104] ty #[vsV kb n c, .slice (some ⟨w.heap.size, 0, none⟩) 1 1]).run Tryz.prog (w.alloc (.cells #[ptr q] 74)) = .ok (vsV (some kb') (n + 1) c') w2 ∧
      Ptrs w2 (some kb') (n + 1) c' (ps ++ [q]) ∧ Upd (w.alloc (.cells #[ptr q] 74)) w2 (fun b _ => kb = some b) ∧ (kb = some kb' ∨ w.heap.size ≤ kb') := by
  obtain ⟨i0, hi, hz0, hz1, hz2⟩ := info_parts infoP
  obtain ⟨W, hW⟩ : ∃ W, W = w.alloc (.cells #[ptr q] 74) := ⟨_, rfl⟩
  have hsz : W.heap.size = w.heap.size + 1 := by rw [hW]; simp
  have hbl : Below w.heap.size w W := by rw [hW]; exact (Below.refl _ _).alloc (Nat.le_refl _) _
  have hz : [ptr q].length = 1 * i0.size := by rw [hz1]; rfl
  have hnew : ∀ j v, [ptr q][j]? = some v → W.cell? ((⟨w.heap.size, 0, none⟩ : Addr).add j) = some v := fun j v hj => by
    rw [hW, WideShapes.add_plain, Nat.zero_add, World.cell?_alloc_new]
    simpa using hj
  have happ : ∀ (cs : Array Value) (i : Nat) (x : Nat × Nat), (∀ (i : Nat) (x : Nat × Nat), ps[i]? = some x → cs[i]? = some (ptr x)) → cs[n]? = some (ptr q) → (ps ++ [q])[i]? = some x → cs[i]? = some (ptr x) := fun cs i x hc hq hx => by
    rcases Nat.lt_or_ge i ps.length with hi | hi
    · rw [List.getElem?_append_left hi] at hx
      exact hc i x hx
    · rw [List.getElem?_append_right hi] at hx
      have hi2 : i - ps.length = 0 := by
        have := (List.getElem?_eq_some_iff.1 hx).1
        simp at this
        omega
      rw [hi2] at hx
      have hx' : q = x := by simpa using hx
      have hin : i = n := by have := h.len; omega
      rw [hin, ← hx']
      exact hq
  rw [← hW]
  rcases Nat.lt_or_ge n c with hc | hc
  · cases kb with
    | none => have := h.no rfl; omega
    | some g =>
      obtain ⟨cs, hg, hs, hp⟩ := h.sp g rfl
      have hgl := (Array.getElem?_eq_some_iff.1 hg).1
      have hg2 : W.heap[g]? = some (.cells cs 74) := (hbl.block g hgl).trans hg
      refine ⟨g, c, W.setCell ⟨g, n, none⟩ (ptr q), ?_, ⟨by omega, h.cm, fun e => (by cases e), by rw [List.length_append, h.len]; rfl, fun g' e => ?_⟩, Upd.setCell W g n _ rfl, .inl rfl⟩
      · have := run_append_room_cells (P := Tryz.prog) W 104 ty 74 i0 Tryz.underlying104 hi g 0 n c ⟨w.heap.size, 0, none⟩ 1 1 [ptr q] hz hnew (fun u hu => by rw [List.mem_singleton] at hu; subst hu; rfl) (by omega) (fun j hj => by
          have : j = 0 := by simpa using hj
          subst this
          rw [hz1, cell_of hg2]
          simp
          omega) (fun j hj => frozen_of hg2 _)
        rw [hz1, Nat.zero_add, Nat.mul_one] at this
        exact this
      · injection e with e
        subst e
        refine ⟨cs.setIfInBounds n (ptr q), ?_, by simpa using hs, fun i x hx => happ _ i x (fun i x hx => ?_) (by rw [Array.getElem?_setIfInBounds]; simp [show n < cs.size by omega]) hx⟩
        · simp only [World.setCell, Array.getElem?_modify, if_true, hg2, Option.map_some]
          rfl
        · have hil := (List.getElem?_eq_some_iff.1 hx).1
          rw [Array.getElem?_setIfInBounds_ne (by have := h.len; omega)]
          exact hp i x hx
  · obtain rfl : c = n := by have := h.le; omega
    have key : ∀ (l : List Value), l.length = c → (∀ (i : Nat) (x : Nat × Nat), ps[i]? = some x → l[i]? = some (ptr x)) → ∀ cap, c + 1 ≤ cap → cap ≤ maxLen → (Builtin.append_ #[104, 104] ty #[vsV kb c c, .slice (some ⟨w.heap.size, 0, none⟩) 1 1]).run Tryz.prog W = .ok (.slice (some ⟨W.heap.size, 0, none⟩) (c + 1) cap) (W.drew.alloc (.cells (l.toArray ++ [ptr q].toArray ++ Builtin.zeroCells #[.pointer none] (cap - (c + 1))) 74)) →
        ∃ kb' c' w2, (Builtin.append_ #[104, 104] ty #[vsV kb c c, .slice (some ⟨w.heap.size, 0, none⟩) 1 1]).run Tryz.prog W = .ok (vsV (some kb') (c + 1) c') w2 ∧ Ptrs w2 (some kb') (c + 1) c' (ps ++ [q]) ∧ Upd W w2 (fun b _ => kb = some b) ∧ (kb = some kb' ∨ w.heap.size ≤ kb') := by
      intro l hl hlp cap hge hcm hrun
      have hzs : (Builtin.zeroCells #[.pointer none] (cap - (c + 1))).size = (cap - (c + 1)) * 1 := by
        unfold Builtin.zeroCells
        rw [Array.size_map, Array.size_range]
        rfl
      refine ⟨W.heap.size, cap, _, hrun, ⟨by omega, hcm, fun e => (by cases e), by rw [List.length_append, h.len]; rfl, fun g' e => ?_⟩, Upd.of_below (((Below.refl _ _).drew).alloc (Nat.le_refl _) _) _, .inr (by omega)⟩
      injection e with e
      subst e
      refine ⟨_, blk_new W.drew _, by rw [Array.size_append, Array.size_append, hzs, List.size_toArray, List.size_toArray, hl]; simp; omega, fun i x hx => happ _ i x (fun i x hx => ?_) ?_ hx⟩
      · have hil := (List.getElem?_eq_some_iff.1 hx).1
        have hlen := h.len
        rw [Array.getElem?_append_left (by rw [Array.size_append, List.size_toArray, List.size_toArray, hl]; simp; omega), Array.getElem?_append_left (by rw [List.size_toArray, hl]; omega)]
        simpa using hlp i x hx
      · rw [Array.getElem?_append_left (by rw [Array.size_append, List.size_toArray, List.size_toArray, hl]; simp), Array.getElem?_append_right (by rw [List.size_toArray, hl]; omega), List.size_toArray, hl, Nat.sub_self]
        rfl
    cases kb with
    | none =>
      obtain ⟨rfl, _⟩ := h.no rfl
      refine key [] rfl (fun i x hx => by
        have := h.len
        have := (List.getElem?_eq_some_iff.1 hx).1
        omega) (grownCap W 1 0 74) (grownCap_ge _ _ _ _) (grownCap_le_maxLen _ _ _ _ (by unfold maxLen; omega)) ?_
      have := run_append_nil (P := Tryz.prog) W 104 ty 74 i0 (.pointer none) Tryz.underlying104 hi hz0 ⟨w.heap.size, 0, none⟩ 1 1 [ptr q] hz hnew (by omega) (by omega) (by rw [hz2]; omega)
      rw [show ([] : List Value).toArray ++ [ptr q].toArray = [ptr q].toArray by simp]
      exact this
    | some g =>
      obtain ⟨cs, hg, hs, hp⟩ := h.sp g rfl
      have hgl := (Array.getElem?_eq_some_iff.1 hg).1
      have hg2 : W.heap[g]? = some (.cells cs 74) := (hbl.block g hgl).trans hg
      refine key cs.toList (by simpa using hs) (fun i x hx => by simpa using hp i x hx) (grownCap W (c + 1) c 74) (grownCap_ge _ _ _ _) (grownCap_le_maxLen _ _ _ _ (by unfold maxLen; unfold MaxV at hn; omega)) ?_
      exact run_append_grow (P := Tryz.prog) W 104 ty 74 i0 (.pointer none) Tryz.underlying104 hi hz0 ⟨g, 0, none⟩ c c cs.toList (by rw [hz1]; simpa using hs) (fun j v hj => by
        rw [WideShapes.add_plain, Nat.zero_add, cell_of hg2]
        simpa using hj) ⟨w.heap.size, 0, none⟩ 1 1 [ptr q] hz hnew (by omega) (by unfold MaxV at hn; omega) (growslice_fits (by omega) (by rw [hz2]; unfold MaxV at hn; omega))
end Go.Proofs.YtgldcjmdjhghpaaGreatDoor
namespace Go.Proofs.YtgldcjmdjhghpaaGreatDoor
open Go.RowKit Go.Proofs.YtgldcjmdjhghpaaGreatDoorW.PrintWords
set_option linter.unusedVariables false
set_option maxRecDepth 100000
def KidS (w0 : World) (pb : Nat) (vb0 : Option Nat) (n0 : Nat) (w : World) (vb : Option Nat) (n ga oa : Nat) (kb : Option Nat) : CellSet := fun b o => Fresh w0 pb vb0 n0 w vb n b o ∧ ¬ (b = ga ∧ oa ≤ o ∧ o < oa + 5) ∧ kb ≠ some b
structure ArrSt (w0 : World) (pb : Nat) (vb0 : Option Nat) (n0 : Nat) (s0 : Bs) (ga oa : Nat) (w : World) (vb : Option Nat) (n c : Nat) (acc : List JV) (ps : List (Nat × Nat)) (kb : Option Nat) (ck : Nat) (s : Bs) : Prop where
  st : St w0 pb vb0 n0 w vb n c
  nv : NewV w0 pb vb0 n0 w vb n ga oa
  c4 : w.cell? ⟨ga, oa + 4, none⟩ = some (.int .i64 2)
  c2 : w.cell? ⟨ga, oa + 2, none⟩ = some (vsV kb acc.length ck)
  pt : Ptrs w kb acc.length ck ps
  base : ∀ g, kb = some g → w0.heap.size ≤ g
  kids : ∀ (i : Nat) (q : Nat × Nat) (x : JV), ps[i]? = some q → acc[i]? = some x → TreeAt w (KidS w0 pb vb0 n0 w vb n ga oa kb) q.1 q.2 x
  cnt : n + nb s ≤ n0 + 1 + nb s0
  sl : s.length ≤ s0.length
  num : acc.length + nb s ≤ nb s0
section
variable {w0 w w' : World} {pb n0 ga oa n n' c c' : Nat} {vb0 vb vb' : Option Nat} {s0 s r : Bs} {acc : List JV} {ps : List (Nat × Nat)} {kb : Option Nat} {ck : Nat}
theorem ArrSt.kb_ne (h : ArrSt w0 pb vb0 n0 s0 ga oa w vb n c acc ps kb ck s) : ∀ g, kb = some g → g ≠ pb ∧ vb ≠ some g ∧ g ≠ ga ∧ g < w.heap.size := fun g e => by
  have hT := h.pt.ty g e
  refine ⟨?_, fun hv => ?_, ?_, blkT_lt hT⟩
  · rintro rfl
    have := blkT_uniq h.st.cache.ty hT
    cases this
  · obtain ⟨cs, hg, _⟩ := h.st.cache.sp g hv
    have := blkT_uniq ⟨cs, hg⟩ hT
    cases this
  · rintro rfl
    have := blkT_uniq h.nv.ty hT
    cases this
theorem ArrSt.skip (h : ArrSt w0 pb vb0 n0 s0 ga oa w vb n c acc ps kb ck s) : ArrSt w0 pb vb0 n0 s0 ga oa w vb n c acc ps kb ck (skipWS s) :=
  ⟨h.st, h.nv, h.c4, h.c2, h.pt, h.base, h.kids, by rw [nb_skip]; exact h.cnt, Nat.le_trans (skip_len s) h.sl, by rw [nb_skip]; exact h.num⟩
theorem ArrSt.less (h : ArrSt w0 pb vb0 n0 s0 ga oa w vb n c acc ps kb ck s) (hn : nb r ≤ nb s) (hl : r.length ≤ s.length) : ArrSt w0 pb vb0 n0 s0 ga oa w vb n c acc ps kb ck r :=
  ⟨h.st, h.nv, h.c4, h.c2, h.pt, h.base, h.kids, by have := h.cnt; omega, Nat.le_trans hl h.sl, by have := h.num; omega⟩
theorem ArrSt.kid (h : ArrSt w0 pb vb0 n0 s0 ga oa w vb n c acc ps kb ck s) {v : JV} {b o : Nat} (k : VOk w pb vb n s v r b o w' vb' n' c') :
    ArrSt w0 pb vb0 n0 s0 ga oa w' vb' n' c' acc ps kb ck r ∧ TreeAt w' (KidS w0 pb vb0 n0 w' vb' n' ga oa kb) b o v ∧ acc.length + 1 + nb r ≤ nb s0 := by
  have hst := h.st.step k.st
  have hne := h.kb_ne
  have hg4 : ∀ j, j < 5 → ¬ Writes pb vb n ga (oa + j) := fun j hj => h.nv.not_writes j hj
  have hnv := h.nv.keep k.st.upd oa (hg4 0 (by omega)) k.st.grew
  have hup : ∀ b o, KidS w0 pb vb0 n0 w vb n ga oa kb b o → KidS w0 pb vb0 n0 w' vb' n' ga oa kb b o := fun b o hh => ⟨hh.1.on k.st.upd.size k.st.grew, hh.2⟩
  refine ⟨⟨hst, hnv, (k.st.upd.cell ga _ h.nv.lt (hg4 4 (by omega))).trans h.c4, (k.st.upd.cell ga _ h.nv.lt (hg4 2 (by omega))).trans h.c2, h.pt.keep k.st.upd (fun g e o hw => ?_), h.base, fun i q x hq hx => ?_, by have := h.cnt; have := k.cnt; omega, by have := h.sl; have := k.len; omega, by have := h.num; have := k.dec; omega⟩, ?_, by have := h.num; have := k.dec; omega⟩
  · rcases hw with ⟨h1, _⟩ | ⟨h1, _⟩
    · exact (hne g e).1 h1
    · exact (hne g e).2.1 h1
  · have := h.kids i q x hq hx
    exact (this.upd k.st.upd (fun b o hh => hh.1.2.1) (fun b o hh => hh.1.not_writes)).mono hup (fun _ _ _ => rfl) (fun _ _ _ _ hT => hT)
  · refine k.tree.mono (fun b o hh => ⟨hh.back h.st.upd.size h.st.grew, ?_, ?_⟩) (fun _ _ _ => rfl) (fun _ _ _ _ hT => hT)
    · rintro ⟨rfl, h1, h2⟩
      have hf := h.nv.fresh (o - oa) (by omega)
      rw [show oa + (o - oa) = o by omega] at hf
      rcases hh.2.2.1 with h3 | ⟨h3, h4⟩
      · have := hf.2.1
        omega
      · have := hf.2.2.2 h3
        omega
    · intro e
      have := hne b e
      rcases hh.2.2.1 with h3 | ⟨h3, h4⟩
      · omega
      · exact this.2.1 h3
theorem ArrSt.push (h : ArrSt w0 pb vb0 n0 s0 ga oa w vb n c acc ps kb ck s) {v : JV} {b o : Nat} (ht : TreeAt w (KidS w0 pb vb0 n0 w vb n ga oa kb) b o v) (hnum : acc.length + 1 + nb s ≤ nb s0) {ob : Obj} {w2 : World} {kb' ck' : Nat}
    (hp : Ptrs w2 (some kb') (acc.length + 1) ck' (ps ++ [(b, o)])) (hu : Upd (w.alloc ob) w2 (fun b _ => kb = some b)) (hk : kb = some kb' ∨ w.heap.size ≤ kb') :
    ArrSt w0 pb vb0 n0 s0 ga oa (w2.setCell ⟨ga, oa + 2, none⟩ (vsV (some kb') (acc.length + 1) ck')) vb n c (acc ++ [v]) (ps ++ [(b, o)]) (some kb') ck' s := by
  have hne := h.kb_ne
  have hsize : w0.heap.size ≤ w.heap.size := h.st.upd.size
  -- the world behind the append
  have hu1 : Upd w w2 (fun b _ => kb = some b) := (Upd.alloc w ob _).trans hu (fun _ _ _ h => h) (fun _ _ _ h => h)
  have hcache : Cache w2 pb vb n c := h.st.cache.keep hu1 (fun e => (hne pb e).1 rfl) ((frozen_upd hu1 0 (fun e => (hne pb e).1 rfl) h.st.cache.ty).trans h.st.cache.fr) (fun g e o e2 => (hne g e2).2.1 e)
  have hst2 : St w0 pb vb0 n0 w2 vb n c := ⟨hcache, h.st.upd.trans hu1 (fun _ _ _ h => h) (fun b o hb e => by have := h.base b e; omega), h.st.grew⟩
  have hnv2 := h.nv.keep hu1 oa (fun e => (hne ga e).2.2.1 rfl) (Grew.refl w vb n)
  have hf2 := hnv2.fresh 2 (by omega)
  have hu2 := Upd.setCell w2 ga (oa + 2) (vsV (some kb') (acc.length + 1) ck') (C := fun b' o' => b' = ga ∧ o' = oa + 2) ⟨rfl, rfl⟩
  have hkb2 : kb' ≠ ga := by
    rintro rfl
    have := blkT_uniq hnv2.ty (hp.ty _ rfl)
    cases this
  have hk1 : ∀ b o, KidS w0 pb vb0 n0 w vb n ga oa kb b o → KidS w0 pb vb0 n0 (w2.setCell ⟨ga, oa + 2, none⟩ (vsV (some kb') (acc.length + 1) ck')) vb n ga oa (some kb') b o := fun b o hh => by
    refine ⟨hh.1.on (Nat.le_trans hu1.size hu2.size) (Grew.refl _ _ _), hh.2.1, fun e => ?_⟩
    injection e with e
    rcases hk with hk | hk
    · exact hh.2.2 (e ▸ hk)
    · have := hh.1.2.1
      omega
  have hkt : ∀ {b o : Nat} {x : JV}, TreeAt w (KidS w0 pb vb0 n0 w vb n ga oa kb) b o x → TreeAt (w2.setCell ⟨ga, oa + 2, none⟩ (vsV (some kb') (acc.length + 1) ck')) (KidS w0 pb vb0 n0 (w2.setCell ⟨ga, oa + 2, none⟩ (vsV (some kb') (acc.length + 1) ck')) vb n ga oa (some kb')) b o x := fun hT =>
    ((hT.upd hu1 (fun b o hh => hh.1.2.1) (fun b o hh => hh.2.2)).upd hu2 (fun b o hh => Nat.lt_of_lt_of_le hh.1.2.1 hu1.size) (fun b o hh e => hh.2.1 ⟨e.1, by have := e.2; omega, by have := e.2; omega⟩)).mono hk1 (fun _ _ _ => rfl) (fun _ _ _ _ hT => hT)
  refine ⟨hst2.set hf2 _, hnv2.set _, ?_, ?_, ?_, fun g e => ?_, fun i q x hq hx => ?_, h.cnt, h.sl, by rw [List.length_append]; exact hnum⟩
  · exact (hu2.cell ga (oa + 4) hnv2.lt (fun e => by have := e.2; omega)).trans ((hu1.cell ga (oa + 4) h.nv.lt (fun e => (hne ga e).2.2.1 rfl)).trans h.c4)
  · rw [List.length_append]
    exact World.cell?_setCell_same w2 ⟨ga, oa + 2, none⟩ _ ((hu1.cell ga (oa + 2) h.nv.lt (fun e => (hne ga e).2.2.1 rfl)).trans h.c2)
  · rw [List.length_append]
    exact hp.keep hu2 (fun g e o e2 => hkb2 (by injection e with e; rw [e, e2.1]))
  · injection e with e
    subst e
    rcases hk with hk | hk
    · exact h.base _ hk
    · omega
  · have hl := h.pt.len
    rcases Nat.lt_or_ge i ps.length with hi | hi
    · rw [List.getElem?_append_left hi] at hq
      rw [List.getElem?_append_left (by omega)] at hx
      exact hkt (h.kids i q x hq hx)
    · rw [List.getElem?_append_right hi] at hq
      rw [List.getElem?_append_right (by omega)] at hx
      have hi2 : i - ps.length = 0 := by
        have := (List.getElem?_eq_some_iff.1 hq).1
        simp at this
        omega
      rw [hi2] at hq
      rw [← hl, hi2] at hx
      have hq' : (b, o) = q := by simpa using hq
      have hx' : v = x := by simpa using hx
      rw [← hq', ← hx']
      exact hkt ht
theorem ArrSt.finish (h : ArrSt w0 pb vb0 n0 s0 ga oa w vb n c acc ps kb ck s) (hn : nb r + 1 ≤ nb s) (hl : r.length + 1 ≤ s.length) : VOk w0 pb vb0 n0 s0 (.arr acc) r ga oa w vb n c := by
  have hne := h.kb_ne
  refine ⟨h.st, .arr (ps := ps) ⟨h.nv.ty, h.nv.al, h.nv.fresh⟩ h.c4 h.c2 h.pt.len h.pt.le h.pt.cm (fun hp => ?_) (fun i q x hq hx => (h.kids i q x hq hx).mono (fun b o hh => hh.1) (fun _ _ _ => rfl) (fun _ _ _ _ hT => hT)), by have := h.cnt; omega, by have := h.sl; omega, by have := h.num; omega⟩
  cases kb with
  | none => have := (h.pt.no rfl).1; omega
  | some g =>
    obtain ⟨cs, hg, hs, hpp⟩ := h.pt.sp g rfl
    have hgn := hne g rfl
    refine ⟨g, rfl, ⟨cs, hg⟩, fun i q hq => ⟨⟨hgn.1, hgn.2.2.2, .inl (h.base g rfl), fun e => absurd e hgn.2.1⟩, ?_⟩⟩
    rw [cell_of hg]
    exact hpp i q hq
end
theorem ArrSt.start {w0 w : World} {pb n0 n c ga oa : Nat} {vb0 vb : Option Nat} {s0 s : Bs} (hst : St w0 pb vb0 n0 w vb n c) (hnv : NewV w0 pb vb0 n0 w vb n ga oa) (h4 : w.cell? ⟨ga, oa + 4, none⟩ = some (.int .i64 2)) (h2 : w.cell? ⟨ga, oa + 2, none⟩ = some (.slice none 0 0)) (hc : n + nb s ≤ n0 + 1 + nb s0) (hs : s.length ≤ s0.length) (hnum : nb s ≤ nb s0) : ArrSt w0 pb vb0 n0 s0 ga oa w vb n c [] [] none 0 s :=
  ⟨hst, hnv, h4, h2, Ptrs.nil w, fun g e => (by cases e), fun i q x hq hx => by simp at hq, hc, hs, by rw [List.length_nil, Nat.zero_add]; exact hnum⟩
theorem pArr_none {n d : Nat} (acc : List JV) {s : Bs} (h : pVal n d (skipWS s) = none) : pArr (n + 1) d acc s = none := by
  rw [pArr, h]
theorem pArr_nil {n d : Nat} (acc : List JV) {s r : Bs} {v : JV} (h : pVal n d (skipWS s) = some (v, r)) (hr : skipWS r = []) : pArr (n + 1) d acc s = none := by
  rw [pArr, h]
  simp only [hr]
theorem pArr_cons {n d : Nat} (acc : List JV) {s r r' : Bs} {v : JV} {c : UInt8} (h : pVal n d (skipWS s) = some (v, r)) (hr : skipWS r = c :: r') : pArr (n + 1) d acc s = if c = 44 then pArr n d (acc ++ [v]) r' else if c = 93 then some (.arr (acc ++ [v]), r') else none := by
  rw [pArr, h]
  simp only [hr]
end Go.Proofs.YtgldcjmdjhghpaaGreatDoor
namespace Go.Proofs.YtgldcjmdjhghpaaGreatDoor
open Go.RowKit Go.Proofs.YtgldcjmdjhghpaaGreatDoorW.PrintWords
set_option linter.unusedVariables false
set_option maxRecDepth 100000
structure ObjSt (w0 : World) (pb : Nat) (vb0 : Option Nat) (n0 : Nat) (s0 : Bs) (ga oa : Nat) (w : World) (vb : Option Nat) (n c : Nat) (acc : List (Bs × JV)) (ps : List (Nat × Nat)) (kb : Option Nat) (m ck : Nat) (kk : Option Bs) (s : Bs) : Prop where
  st : St w0 pb vb0 n0 w vb n c
  nv : NewV w0 pb vb0 n0 w vb n ga oa
  c4 : w.cell? ⟨ga, oa + 4, none⟩ = some (.int .i64 1)
  c1 : w.cell? ⟨ga, oa + 1, none⟩ = some (.bool false)
  kv : Kvs w ga oa kb m ck
  hm : acc.length ≤ m
  base : ∀ g, kb = some g → w0.heap.size ≤ g
  ptrs : ∀ g, kb = some g → ∀ (i : Nat) (q : Nat × Nat), ps[i]? = some q → w.cell? ⟨g, 2 * i + 1, none⟩ = some (ptr q)
  keys : ∀ g, kb = some g → ∀ (i : Nat) (p : Bs × JV), acc[i]? = some p → w.cell? ⟨g, 2 * i, none⟩ = some (.string (bStr p.1))
  key : ∀ g k, kb = some g → kk = some k → w.cell? ⟨g, 2 * acc.length, none⟩ = some (.string (bStr k))
  len : ps.length = acc.length
  kids : ∀ (i : Nat) (q : Nat × Nat) (p : Bs × JV), ps[i]? = some q → acc[i]? = some p → TreeAt w (KidS w0 pb vb0 n0 w vb n ga oa kb) q.1 q.2 p.2
  cnt : n + nb s ≤ n0 + 1 + nb s0
  sl : s.length ≤ s0.length
  num : acc.length + nb s ≤ nb s0
section
variable {w0 w w' : World} {pb n0 ga oa n n' c c' m : Nat} {vb0 vb vb' : Option Nat} {s0 s r : Bs} {acc : List (Bs × JV)} {ps : List (Nat × Nat)} {kb : Option Nat} {ck : Nat} {kk : Option Bs}
theorem ObjSt.kb_ne (h : ObjSt w0 pb vb0 n0 s0 ga oa w vb n c acc ps kb m ck kk s) : ∀ g, kb = some g → g ≠ pb ∧ vb ≠ some g ∧ g ≠ ga ∧ g < w.heap.size := fun g e => by
  obtain ⟨hne, cs, hg, hs⟩ := h.kv.sp g e
  have hT : blkT w g 125 := ⟨cs, hg⟩
  refine ⟨?_, fun hv => ?_, hne, blkT_lt hT⟩
  · rintro rfl
    have := blkT_uniq h.st.cache.ty hT
    cases this
  · obtain ⟨cs, hg, _⟩ := h.st.cache.sp g hv
    have := blkT_uniq ⟨cs, hg⟩ hT
    cases this
theorem ObjSt.skip (h : ObjSt w0 pb vb0 n0 s0 ga oa w vb n c acc ps kb m ck kk s) : ObjSt w0 pb vb0 n0 s0 ga oa w vb n c acc ps kb m ck kk (skipWS s) :=
  ⟨h.st, h.nv, h.c4, h.c1, h.kv, h.hm, h.base, h.ptrs, h.keys, h.key, h.len, h.kids, by rw [nb_skip]; exact h.cnt, Nat.le_trans (skip_len s) h.sl, by rw [nb_skip]; exact h.num⟩
theorem ObjSt.less (h : ObjSt w0 pb vb0 n0 s0 ga oa w vb n c acc ps kb m ck kk s) (hn : nb r ≤ nb s) (hl : r.length ≤ s.length) : ObjSt w0 pb vb0 n0 s0 ga oa w vb n c acc ps kb m ck kk r :=
  ⟨h.st, h.nv, h.c4, h.c1, h.kv, h.hm, h.base, h.ptrs, h.keys, h.key, h.len, h.kids, by have := h.cnt; omega, Nat.le_trans hl h.sl, by have := h.num; omega⟩
theorem KidS.up {w0 w w' : World} {pb n0 ga oa n n' : Nat} {vb0 vb vb' : Option Nat} {kb kb' : Option Nat} (hs : w.heap.size ≤ w'.heap.size) (hg : Grew w vb n vb' n') (hk : ∀ g, kb' = some g → kb = some g ∨ w.heap.size ≤ g) {b o : Nat} (h : KidS w0 pb vb0 n0 w vb n ga oa kb b o) : KidS w0 pb vb0 n0 w' vb' n' ga oa kb' b o := by
  refine ⟨h.1.on hs hg, h.2.1, fun e => ?_⟩
  rcases hk b e with h1 | h1
  · exact h.2.2 h1
  · have := h.1.2.1
    omega
/-- A step that leaves the children and the object's own cells alone. -/
theorem ObjSt.on (h : ObjSt w0 pb vb0 n0 s0 ga oa w vb n c acc ps kb m ck kk s) (hb : Below w.heap.size w w') : ObjSt w0 pb vb0 n0 s0 ga oa w' vb n c acc ps kb m ck kk s := by
  have hne := h.kb_ne
  have hu := Upd.of_below hb (fun _ _ => False)
  refine ⟨h.st.on hb, h.nv.on hb, (hu.cell ga _ h.nv.lt (fun h => h)).trans h.c4, (hu.cell ga _ h.nv.lt (fun h => h)).trans h.c1, h.kv.on hb, h.hm, h.base, fun g e i q hq => ?_, fun g e i p hp => ?_, fun g k e ek => ?_, h.len, fun i q p hq hp => ?_, h.cnt, h.sl, h.num⟩
  · exact (hu.cell g _ (hne g e).2.2.2 (fun h => h)).trans (h.ptrs g e i q hq)
  · exact (hu.cell g _ (hne g e).2.2.2 (fun h => h)).trans (h.keys g e i p hp)
  · exact (hu.cell g _ (hne g e).2.2.2 (fun h => h)).trans (h.key g k e ek)
  · exact ((h.kids i q p hq hp).upd hu (fun b o hh => hh.1.2.1) (fun _ _ _ hh => hh)).mono (fun b o hh => hh.up hb.size (Grew.refl _ _ _) (fun g e => .inl e)) (fun _ _ _ => rfl) (fun _ _ _ _ hT => hT)
theorem ObjSt.getKV {g ck' : Nat} (h : ObjSt w0 pb vb0 n0 s0 ga oa w vb n c acc ps kb acc.length ck none s) (k : GotK w ga oa kb acc.length g ck' w') : ObjSt w0 pb vb0 n0 s0 ga oa w' vb n c acc ps (some g) (acc.length + 1) ck' none s := by
  have hne := h.kb_ne
  have hf0 := h.nv.fresh 0 (by omega)
  have hC0 : ∀ b o, b < w0.heap.size → (b = ga ∧ o = oa) → Writes pb vb0 n0 b o := fun b o hb e => by
    rw [e.1] at hb ⊢
    rw [e.2]
    exact hf0.writes hb
  have hcache : Cache w' pb vb n c := by
    have h1 : ¬ (pb = ga ∧ (1 : Nat) = oa) := fun e => hf0.1 e.1.symm
    refine Cache.mk (k.upd.blkT 1 h1 h.st.cache.ty) ((k.upd.cell pb 1 (blkT_lt h.st.cache.ty) h1).trans h.st.cache.vs) ((frozen_upd k.upd 1 h1 h.st.cache.ty).trans h.st.cache.fr) h.st.cache.le h.st.cache.cm h.st.cache.no (fun g' e => ?_)
    obtain ⟨cs, hg, hs, hz⟩ := h.st.cache.sp g' e
    by_cases hgb : g' = ga
    · subst hgb
      obtain ⟨cs', hg'⟩ := k.upd.shp g' (oa + 1) cs _ _ (fun e => by have := e.2; omega) hg
      obtain ⟨hne2, _⟩ := k.kvs.sp g rfl
      have hsize : cs'.size = cs.size := by
        -- every cell of the block but one is as it was
        have hc : ∀ o, o ≠ oa → cs'[o]? = cs[o]? := fun o ho => by
          have := k.upd.cell g' o (Array.getElem?_eq_some_iff.1 hg).1 (fun e => ho e.2)
          rw [cell_of hg', cell_of hg] at this
          exact this
        have hoa : oa + 1 < cs.size := by
          have h5 := hf0.2.2.2 e
          have := h.st.cache.le
          have := h.nv.al
          omega
        rcases Nat.lt_trichotomy cs'.size cs.size with h1 | h1 | h1
        · have h2 := hc (cs.size - 1) (by omega)
          rw [Array.getElem?_eq_none (by omega), Array.getElem?_eq_getElem (by omega)] at h2
          cases h2
        · exact h1
        · have h2 := hc cs.size (by omega)
          rw [Array.getElem?_eq_none (show cs.size ≤ cs.size from Nat.le_refl _), Array.getElem?_eq_getElem h1] at h2
          cases h2
      refine ⟨cs', hg', by omega, fun k1 hk1 hk2 j hj => ?_⟩
      have h5 := hf0.2.2.2 e
      have := k.upd.cell g' (5 * k1 + j) (Array.getElem?_eq_some_iff.1 hg).1 (fun e => by have := e.2; have := h.nv.al; omega)
      rw [cell_of hg', cell_of hg] at this
      rw [this]
      exact hz k1 hk1 hk2 j hj
    · exact ⟨cs, (k.upd.blk g' (Array.getElem?_eq_some_iff.1 hg).1 (fun o e => hgb e.1)).trans hg, hs, hz⟩
  have hnk : ∀ g', kb = some g' → ∀ o, ¬ (g' = ga ∧ o = oa) := fun g' e o hh => (hne g' e).2.2.1 hh.1
  have hcell : ∀ g', kb = some g' → ∀ j, j < 2 * acc.length → w'.cell? ⟨g, j, none⟩ = w.cell? ⟨g', j, none⟩ := fun g' e j hj => k.same g' e j hj
  have hkb0 : 0 < acc.length → ∃ g', kb = some g' := fun hp => by
    cases hk : kb with
    | none => have := (h.kv.no hk).1; omega
    | some g' => exact ⟨g', rfl⟩
  refine ⟨⟨hcache, h.st.upd.trans k.upd (fun _ _ _ h => h) hC0, h.st.grew⟩, h.nv.keep k.upd (oa + 1) (fun e => by have := e.2; omega) (Grew.refl _ _ _), (k.upd.cell ga _ h.nv.lt (fun e => by have := e.2; omega)).trans h.c4, (k.upd.cell ga _ h.nv.lt (fun e => by have := e.2; omega)).trans h.c1, k.kvs, Nat.le_succ _, fun g' e => ?_, fun g' e i q hq => ?_, fun g' e i p hp => ?_, fun g' k e ek => (by cases ek), h.len, fun i q p hq hp => ?_, h.cnt, h.sl, h.num⟩
  · injection e with e
    subst e
    rcases k.old with h1 | h1
    · exact h.base _ h1
    · have := h.st.upd.size
      omega
  · injection e with e
    subst e
    have hi := (List.getElem?_eq_some_iff.1 hq).1
    have hl := h.len
    obtain ⟨g0, e0⟩ := hkb0 (by omega)
    exact (hcell g0 e0 _ (by omega)).trans (h.ptrs g0 e0 i q hq)
  · injection e with e
    subst e
    have hi := (List.getElem?_eq_some_iff.1 hp).1
    obtain ⟨g0, e0⟩ := hkb0 (by omega)
    exact (hcell g0 e0 _ (by omega)).trans (h.keys g0 e0 i p hp)
  · refine ((h.kids i q p hq hp).upd k.upd (fun b o hh => hh.1.2.1) (fun b o hh e => hh.2.1 ⟨e.1, by have := e.2; omega, by have := e.2; omega⟩)).mono (fun b o hh => hh.up k.upd.size (Grew.refl _ _ _) (fun g' e => ?_)) (fun _ _ _ => rfl) (fun _ _ _ _ hT => hT)
    injection e with e
    subst e
    exact k.old
/-- A cell of the fields' own block is written, behind those that stand. -/
theorem ObjSt.setK {g : Nat} (h : ObjSt w0 pb vb0 n0 s0 ga oa w vb n c acc ps (some g) m ck kk s) (j : Nat) (hj : 2 * acc.length ≤ j) (hk : kk = none ∨ j ≠ 2 * acc.length) (u : Value) : ObjSt w0 pb vb0 n0 s0 ga oa (w.setCell ⟨g, j, none⟩ u) vb n c acc ps (some g) m ck kk s := by
  obtain ⟨n1, n2, n3, n4⟩ := h.kb_ne g rfl
  have hf : Fresh w0 pb vb0 n0 w vb n g j := ⟨n1, n4, .inl (h.base g rfl), fun e => absurd e n2⟩
  have hu := Upd.setCell w g j u (C := fun b' o' => b' = g ∧ o' = j) ⟨rfl, rfl⟩
  obtain ⟨hne, cs, hg, hs⟩ := h.kv.sp g rfl
  refine ⟨h.st.set hf u, h.nv.set u, (hu.cell ga _ h.nv.lt (fun e => n3 e.1.symm)).trans h.c4, (hu.cell ga _ h.nv.lt (fun e => n3 e.1.symm)).trans h.c1, Kvs.mk (Nat.lt_of_lt_of_le h.kv.lt hu.size) ((hu.cell ga oa h.kv.lt (fun e => n3 e.1.symm)).trans h.kv.vs) (by rw [World.frozen?_setCell]; exact h.kv.fr) h.kv.le h.kv.cm h.kv.no (fun g' e => ?_), h.hm, h.base, fun g' e i q hq => ?_, fun g' e i p hp => ?_, fun g' k e ek => ?_, h.len, fun i q p hq hp => ?_, h.cnt, h.sl, h.num⟩
  · injection e with e
    subst e
    refine ⟨hne, cs.setIfInBounds j u, ?_, by simpa using hs⟩
    simp only [World.setCell, Array.getElem?_modify, if_true, hg, Option.map_some]
    rfl
  · injection e with e
    subst e
    have hi := (List.getElem?_eq_some_iff.1 hq).1
    have hl := h.len
    exact (hu.cell _ _ n4 (fun e => by have := e.2; omega)).trans (h.ptrs _ rfl i q hq)
  · injection e with e
    subst e
    have hi := (List.getElem?_eq_some_iff.1 hp).1
    exact (hu.cell _ _ n4 (fun e => by have := e.2; omega)).trans (h.keys _ rfl i p hp)
  · injection e with e
    subst e
    rcases hk with hk | hk
    · rw [hk] at ek
      cases ek
    · exact (hu.cell _ _ n4 (fun e => hk e.2.symm)).trans (h.key _ k rfl ek)
  · exact ((h.kids i q p hq hp).upd hu (fun b o hh => hh.1.2.1) (fun b o hh e => hh.2.2 (by rw [e.1]))).mono (fun b o hh => hh.up hu.size (Grew.refl _ _ _) (fun g e => .inl e)) (fun _ _ _ => rfl) (fun _ _ _ _ hT => hT)
theorem ObjSt.kcell {g : Nat} (h : ObjSt w0 pb vb0 n0 s0 ga oa w vb n c acc ps (some g) m ck kk s) (j : Nat) (hj : j < 2 * ck) : (∃ v, w.cell? ⟨g, j, none⟩ = some v) ∧ w.frozen? ⟨g, j, none⟩ = false := by
  obtain ⟨hne, cs, hg, hs⟩ := h.kv.sp g rfl
  exact ⟨⟨cs[j], by rw [cell_of hg]; exact Array.getElem?_eq_getElem (by omega)⟩, frozen_of hg j⟩
theorem ObjSt.setKey {g : Nat} (h : ObjSt w0 pb vb0 n0 s0 ga oa w vb n c acc ps (some g) (acc.length + 1) ck none s) (k : Bs) : ObjSt w0 pb vb0 n0 s0 ga oa (w.setCell ⟨g, 2 * acc.length, none⟩ (.string (bStr k))) vb n c acc ps (some g) (acc.length + 1) ck (some k) s := by
  have h1 := h.setK (2 * acc.length) (Nat.le_refl _) (.inl rfl) (.string (bStr k))
  have hle := h.kv.le
  obtain ⟨⟨v, hv⟩, _⟩ := h.kcell (2 * acc.length) (by omega)
  refine ⟨h1.st, h1.nv, h1.c4, h1.c1, h1.kv, h1.hm, h1.base, h1.ptrs, h1.keys, fun g' k' e ek => ?_, h1.len, h1.kids, h1.cnt, h1.sl, h1.num⟩
  injection e with e
  injection ek with ek
  subst e
  subst ek
  exact World.cell?_setCell_same w ⟨g, 2 * acc.length, none⟩ _ hv
theorem ObjSt.kid (h : ObjSt w0 pb vb0 n0 s0 ga oa w vb n c acc ps kb m ck kk s) {v : JV} {b o : Nat} (k : VOk w pb vb n s v r b o w' vb' n' c') :
    ObjSt w0 pb vb0 n0 s0 ga oa w' vb' n' c' acc ps kb m ck kk r ∧ TreeAt w' (KidS w0 pb vb0 n0 w' vb' n' ga oa kb) b o v ∧ acc.length + 1 + nb r ≤ nb s0 := by
  have hst := h.st.step k.st
  have hne := h.kb_ne
  have hg4 : ∀ j, j < 5 → ¬ Writes pb vb n ga (oa + j) := fun j hj => h.nv.not_writes j hj
  have hnv := h.nv.keep k.st.upd oa (hg4 0 (by omega)) k.st.grew
  have hnk : ∀ g, kb = some g → ∀ o, ¬ Writes pb vb n g o := fun g e o hw => by
    rcases hw with ⟨h1, _⟩ | ⟨h1, _⟩
    · exact (hne g e).1 h1
    · exact (hne g e).2.1 h1
  refine ⟨⟨hst, hnv, (k.st.upd.cell ga _ h.nv.lt (hg4 4 (by omega))).trans h.c4, (k.st.upd.cell ga _ h.nv.lt (hg4 1 (by omega))).trans h.c1, Kvs.mk (Nat.lt_of_lt_of_le h.kv.lt k.st.upd.size) ((k.st.upd.cell ga oa h.kv.lt (hg4 0 (by omega))).trans h.kv.vs) ((frozen_upd k.st.upd oa (hg4 0 (by omega)) h.nv.ty).trans h.kv.fr) h.kv.le h.kv.cm h.kv.no (fun g e => ?_), h.hm, h.base, fun g e i q hq => ?_, fun g e i p hp => ?_, fun g kx e ek => ?_, h.len, fun i q p hq hp => ?_, by have := h.cnt; have := k.cnt; omega, by have := h.sl; have := k.len; omega, by have := h.num; have := k.dec; omega⟩, ?_, by have := h.num; have := k.dec; omega⟩
  · obtain ⟨hne2, cs, hg, hs⟩ := h.kv.sp g e
    exact ⟨hne2, cs, (k.st.upd.blk g (Array.getElem?_eq_some_iff.1 hg).1 (hnk g e)).trans hg, hs⟩
  · exact (k.st.upd.cell g _ (hne g e).2.2.2 (hnk g e _)).trans (h.ptrs g e i q hq)
  · exact (k.st.upd.cell g _ (hne g e).2.2.2 (hnk g e _)).trans (h.keys g e i p hp)
  · exact (k.st.upd.cell g _ (hne g e).2.2.2 (hnk g e _)).trans (h.key g kx e ek)
  · exact ((h.kids i q p hq hp).upd k.st.upd (fun b o hh => hh.1.2.1) (fun b o hh => hh.1.not_writes)).mono (fun b o hh => hh.up k.st.upd.size k.st.grew (fun g e => .inl e)) (fun _ _ _ => rfl) (fun _ _ _ _ hT => hT)
  · refine k.tree.mono (fun b o hh => ⟨hh.back h.st.upd.size h.st.grew, ?_, ?_⟩) (fun _ _ _ => rfl) (fun _ _ _ _ hT => hT)
    · rintro ⟨rfl, h1, h2⟩
      have hf := h.nv.fresh (o - oa) (by omega)
      rw [show oa + (o - oa) = o by omega] at hf
      rcases hh.2.2.1 with h3 | ⟨h3, h4⟩
      · have := hf.2.1
        omega
      · have := hf.2.2.2 h3
        omega
    · intro e
      have := hne b e
      rcases hh.2.2.1 with h3 | ⟨h3, h4⟩
      · omega
      · exact this.2.1 h3
theorem ObjSt.setVal {g : Nat} {k : Bs} (h : ObjSt w0 pb vb0 n0 s0 ga oa w vb n c acc ps (some g) (acc.length + 1) ck (some k) s) {v : JV} {b o : Nat} (ht : TreeAt w (KidS w0 pb vb0 n0 w vb n ga oa (some g)) b o v) (hnum : acc.length + 1 + nb s ≤ nb s0) :
    ObjSt w0 pb vb0 n0 s0 ga oa (w.setCell ⟨g, 2 * acc.length + 1, none⟩ (ptr (b, o))) vb n c (acc ++ [(k, v)]) (ps ++ [(b, o)]) (some g) (acc ++ [(k, v)]).length ck none s := by
  have h1 := h.setK (2 * acc.length + 1) (by omega) (.inr (by omega)) (ptr (b, o))
  have hle := h.kv.le
  obtain ⟨⟨v0, hv⟩, _⟩ := h.kcell (2 * acc.length + 1) (by omega)
  obtain ⟨n1, n2, n3, n4⟩ := h.kb_ne g rfl
  have hu := Upd.setCell w g (2 * acc.length + 1) (ptr (b, o)) (C := fun b' o' => b' = g ∧ o' = 2 * acc.length + 1) ⟨rfl, rfl⟩
  have hlen : (acc ++ [(k, v)]).length = acc.length + 1 := by rw [List.length_append]; rfl
  have hl := h.len
  have hlast : ∀ {α : Type} (l : List α) (x y : α) (i : Nat), l.length ≤ i → (l ++ [x])[i]? = some y → i = l.length ∧ x = y := fun l x y i hi hx => by
    rw [List.getElem?_append_right hi] at hx
    have hi2 : i - l.length = 0 := by
      have := (List.getElem?_eq_some_iff.1 hx).1
      simp at this
      omega
    rw [hi2] at hx
    exact ⟨by omega, by simpa using hx⟩
  refine ⟨h1.st, h1.nv, h1.c4, h1.c1, by rw [hlen]; exact h1.kv, Nat.le_refl _, h1.base, fun g' e i q hq => ?_, fun g' e i p hp => ?_, fun g' k' e ek => (by cases ek), by rw [List.length_append, List.length_append, hl]; rfl, fun i q p hq hp => ?_, h1.cnt, h1.sl, by rw [hlen]; exact hnum⟩
  · rcases Nat.lt_or_ge i ps.length with hi | hi
    · rw [List.getElem?_append_left hi] at hq
      exact h1.ptrs g' e i q hq
    · obtain ⟨e1, e2⟩ := hlast ps (b, o) q i hi hq
      injection e with e
      subst e
      rw [e1, ← e2, hl]
      exact World.cell?_setCell_same w ⟨g, 2 * acc.length + 1, none⟩ _ hv
  · rcases Nat.lt_or_ge i acc.length with hi | hi
    · rw [List.getElem?_append_left hi] at hp
      exact h1.keys g' e i p hp
    · obtain ⟨e1, e2⟩ := hlast acc (k, v) p i hi hp
      rw [e1, ← e2]
      exact h1.key g' k e rfl
  · have hup : ∀ b o, KidS w0 pb vb0 n0 w vb n ga oa (some g) b o → KidS w0 pb vb0 n0 (w.setCell ⟨g, 2 * acc.length + 1, none⟩ (ptr (b, o))) vb n ga oa (some g) b o := fun b o hh => hh.up (Upd.setCell w g (2 * acc.length + 1) (ptr (b, o)) (C := fun b' o' => b' = g ∧ o' = 2 * acc.length + 1) ⟨rfl, rfl⟩).size (Grew.refl _ _ _) (fun g e => .inl e)
    rcases Nat.lt_or_ge i ps.length with hi | hi
    · rw [List.getElem?_append_left hi] at hq
      rw [List.getElem?_append_left (by omega)] at hp
      exact h1.kids i q p hq hp
    · obtain ⟨e1, e2⟩ := hlast ps (b, o) q i hi hq
      obtain ⟨e3, e4⟩ := hlast acc (k, v) p i (by omega) hp
      rw [← e2, ← e4]
      exact (ht.upd hu (fun b o hh => hh.1.2.1) (fun b o hh e => hh.2.2 (by rw [e.1]))).mono (fun b o hh => hh.up hu.size (Grew.refl _ _ _) (fun g e => .inl e)) (fun _ _ _ => rfl) (fun _ _ _ _ hT => hT)
theorem ObjSt.finish (h : ObjSt w0 pb vb0 n0 s0 ga oa w vb n c acc ps kb acc.length ck kk s) (hn : nb r + 1 ≤ nb s) (hl : r.length + 1 ≤ s.length) : VOk w0 pb vb0 n0 s0 (.obj acc) r ga oa w vb n c := by
  have hne := h.kb_ne
  refine ⟨h.st, .obj (ps := ps) ⟨h.nv.ty, h.nv.al, h.nv.fresh⟩ h.c4 h.kv.vs h.c1 h.len h.kv.le h.kv.cm (fun hp => ?_) (fun i q x hq hx => (h.kids i q x hq hx).mono (fun b o hh => hh.1) (fun _ _ _ => rfl) (fun _ _ _ _ hT => hT)), by have := h.cnt; omega, by have := h.sl; omega, by have := h.num; omega⟩
  cases kb with
  | none => have := (h.kv.no rfl).1; omega
  | some g =>
    obtain ⟨hne2, cs, hg, hs⟩ := h.kv.sp g rfl
    have hgn := hne g rfl
    exact ⟨g, rfl, ⟨cs, hg⟩, fun i q hq => ⟨⟨hgn.1, hgn.2.2.2, .inl (h.base g rfl), fun e => absurd e hgn.2.1⟩, h.ptrs g rfl i q hq⟩, fun i p hp => ⟨⟨hgn.1, hgn.2.2.2, .inl (h.base g rfl), fun e => absurd e hgn.2.1⟩, h.keys g rfl i p hp⟩⟩
end
theorem ObjSt.start {w0 w : World} {pb n0 n c ga oa : Nat} {vb0 vb : Option Nat} {s0 s : Bs} (hst : St w0 pb vb0 n0 w vb n c) (hnv : NewV w0 pb vb0 n0 w vb n ga oa) (h4 : w.cell? ⟨ga, oa + 4, none⟩ = some (.int .i64 1)) (h0 : w.cell? ⟨ga, oa, none⟩ = some (.slice none 0 0)) (h1 : w.cell? ⟨ga, oa + 1, none⟩ = some (.bool false)) (hc : n + nb s ≤ n0 + 1 + nb s0) (hs : s.length ≤ s0.length) (hnum : nb s ≤ nb s0) : ObjSt w0 pb vb0 n0 s0 ga oa w vb n c [] [] none 0 0 none s :=
  ⟨hst, hnv, h4, h1, ⟨hnv.lt, h0, hnv.fr 0 (by omega), Nat.le_refl _, by unfold maxLen; omega, fun _ => ⟨rfl, rfl⟩, fun g e => (by cases e)⟩, Nat.le_refl _, fun g e => (by cases e), fun g e => (by cases e), fun g e => (by cases e), fun g k e => (by cases e), rfl, fun i q x hq hx => by simp at hq, hc, hs, by rw [List.length_nil, Nat.zero_add]; exact hnum⟩
theorem pObj_nil {n d : Nat} (acc : List (Bs × JV)) {s : Bs} (h : skipWS s = []) : pObj (n + 1) d acc s = none := by
  rw [pObj]
  simp only [h]
theorem pObj_noq {n d : Nat} (acc : List (Bs × JV)) {s r : Bs} {c : UInt8} (h : skipWS s = c :: r) (hc : c ≠ 34) : pObj (n + 1) d acc s = none := by
  rw [pObj]
  simp only [h]
  rw [if_pos hc]
theorem pObj_nokey {n d : Nat} (acc : List (Bs × JV)) {s r : Bs} (h : skipWS s = 34 :: r) (hk : rawKey r = none) : pObj (n + 1) d acc s = none := by
  rw [pObj]
  simp only [h, hk]
  rfl
theorem pObj_nocolon0 {n d : Nat} (acc : List (Bs × JV)) {s r r1 k : Bs} (h : skipWS s = 34 :: r) (hk : rawKey r = some (k, r1)) (h1 : skipWS r1 = []) : pObj (n + 1) d acc s = none := by
  rw [pObj]
  simp only [h, hk, h1]
  rfl
theorem pObj_nocolon {n d : Nat} (acc : List (Bs × JV)) {s r r1 r2 k : Bs} {c : UInt8} (h : skipWS s = 34 :: r) (hk : rawKey r = some (k, r1)) (h1 : skipWS r1 = c :: r2) (hc : c ≠ 58) : pObj (n + 1) d acc s = none := by
  rw [pObj]
  simp only [h, hk, h1]
  rw [if_neg (by simp), if_pos hc]
theorem pObj_noval {n d : Nat} (acc : List (Bs × JV)) {s r r1 r2 k : Bs} (h : skipWS s = 34 :: r) (hk : rawKey r = some (k, r1)) (h1 : skipWS r1 = 58 :: r2) (hv : pVal n d (skipWS r2) = none) : pObj (n + 1) d acc s = none := by
  rw [pObj]
  simp only [h, hk, h1, hv]
  rfl
theorem pObj_end {n d : Nat} (acc : List (Bs × JV)) {s r r1 r2 r3 k : Bs} {v : JV} (h : skipWS s = 34 :: r) (hk : rawKey r = some (k, r1)) (h1 : skipWS r1 = 58 :: r2) (hv : pVal n d (skipWS r2) = some (v, r3)) (h3 : skipWS r3 = []) : pObj (n + 1) d acc s = none := by
  rw [pObj]
  simp only [h, hk, h1, hv, h3]
  rfl
theorem pObj_cons {n d : Nat} (acc : List (Bs × JV)) {s r r1 r2 r3 r4 k : Bs} {v : JV} {c : UInt8} (h : skipWS s = 34 :: r) (hk : rawKey r = some (k, r1)) (h1 : skipWS r1 = 58 :: r2) (hv : pVal n d (skipWS r2) = some (v, r3)) (h3 : skipWS r3 = c :: r4) :
    pObj (n + 1) d acc s = if c = 44 then pObj n d (acc ++ [(k, v)]) r4 else if c = 125 then some (.obj (acc ++ [(k, v)]), r4) else none := by
  rw [pObj]
  simp only [h, hk, h1, hv, h3]
  rfl
end Go.Proofs.YtgldcjmdjhghpaaGreatDoor
