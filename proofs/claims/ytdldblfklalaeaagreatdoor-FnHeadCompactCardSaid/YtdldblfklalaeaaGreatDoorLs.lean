/-
  jwsbb.HeaderGetStringArray, impl.HeadList: their contracts.
-/
import Derived.Test.YtdldblfklalaeaaGreatDoorFz
import Derived.Deep.DeepCutAuto
import Derived.Deep.CutBlock
namespace Go.Proofs.YtdldblfklalaeaaGreatDoor
open Go.RowKit Go.Proofs.YtdldblfklalaeaaGreatDoorW.PrintWords Go.ChangeShapes Go.WideShapes
set_option linter.unusedVariables false
set_option linter.unusedSimpArgs false
set_option maxRecDepth 100000
/-- A text among the items of a list. -/
def strB : JV → ByteArray
  | .str raw => bStr (unesc raw)
  | _ => ByteArray.empty
def isStr : JV → Bool
  | .str _ => true
  | _ => false
/-- A row of texts that is being filled. -/
structure RowS (w : World) (g : Nat) (ss : List ByteArray) (k : Nat) : Prop where
  ty : blkT w g 9
  any : ∀ j, j < ss.length → ∃ v, w.cell? ⟨g, j, none⟩ = some v
  done : ∀ j s, j < k → ss[j]? = some s → w.cell? ⟨g, j, none⟩ = some (.string s)
theorem row_blk {w0 w : World} {B e i : Nat} {L : List Asrt} {α : Type} {d : Kd α} {v : Value} {xs : List α} (hS : Hold w0 B w L) (hi : L[i]? = some (.row d e v xs)) (hne : 0 < xs.length) :
    ∃ g c, v = .slice (some ⟨g, 0, none⟩) xs.length c ∧ xs.length ≤ c ∧ B ≤ g ∧ blkT w g e := by
  obtain ⟨f, hp, hb⟩ := hS.get i hi
  obtain ⟨h0, inner, ho, hr⟩ := hp
  rcases ho.2 with ⟨_, hn⟩ | ⟨g, cap, cur, rfl, _, hh, hnc, hcm, hcs, htake⟩
  · omega
  · have hg := hb g (h0 g (by simp [Value.ownBlock]))
    exact ⟨g, cap, rfl, hnc, hg.1, ⟨_, hh⟩⟩
/-- Where the reading of a list stands. -/
structure ArrLp (B : Nat) (w : World) (A : Option Addr) (ps : List (Nat × Nat)) (xs : List JV) (g : Nat) (k : Nat) (wr : World) : Prop where
  row : RowS wr g (xs.map strB) k
  ge : B ≤ g
  size : B ≤ wr.heap.size
  leaf : ∀ (i : Nat) (q : Nat × Nat) (x : JV), ps[i]? = some q → xs[i]? = some x → Leaf wr B q.1 q.2 x
  pts : ∃ gA, A = some ⟨gA, 0, none⟩ ∧ blkT wr gA 122 ∧ ∀ (i : Nat) (q : Nat × Nat), ps[i]? = some q → wr.cell? ⟨gA, i, none⟩ = some (ptr q)
  str : ∀ i x, i < k → xs[i]? = some x → isStr x = true
  below : Below B w wr
theorem ArrLp.step {B : Nat} {w : World} {A : Option Addr} {ps : List (Nat × Nat)} {xs : List JV} {g k : Nat} {wr w2 : World} {q : Nat × Nat} {raw : Bs} (h : ArrLp B w A ps xs g k wr) (hx : xs[k]? = some (.str raw)) (hT : blkT wr q.1 174) (al : q.2 % 5 = 0)
    (hs : StrAt wr q.1 q.2 raw) (hd : StrDone w2 q.1 q.2 raw) (hu : Upd wr w2 (TxtCells q.1 q.2)) (hB : B ≤ q.1) : ArrLp B w A ps xs g (k + 1) (w2.setCell ⟨g, k, none⟩ (.string (bStr (unesc raw)))) := by
  have hgq : g ≠ q.1 := fun e => by
    have := blkT_uniq (e ▸ h.row.ty) hT
    exact absurd this (by decide)
  have ty2 : blkT w2 g 9 := hu.blkT 0 (fun hh => hgq hh.1) h.row.ty
  have hcal : Calm w2 (w2.setCell ⟨g, k, none⟩ (.string (bStr (unesc raw)))) (fun b o => b = g ∧ o = k) := ⟨Upd.setCell w2 g k _ ⟨rfl, rfl⟩, fun b o j hb _ _ _ hh => by
    obtain rfl : b = g := hh.1
    exact absurd (blkT_uniq hb ty2) (by decide), fun b o hb hh => by
    obtain rfl : b = g := hh.1
    exact absurd (blkT_uniq hb ty2) (by decide)⟩
  have hcell : ∀ j v, wr.cell? ⟨g, j, none⟩ = some v → w2.cell? ⟨g, j, none⟩ = some v := fun j v hv => (hu.cell g j (blkT_lt h.row.ty) (fun hh => hgq hh.1)).trans hv
  have hkl : k < (xs.map strB).length := by
    rw [List.length_map]
    exact (List.getElem?_eq_some_iff.1 hx).1
  have hset : ∀ j, j ≠ k → (w2.setCell ⟨g, k, none⟩ (.string (bStr (unesc raw)))).cell? ⟨g, j, none⟩ = w2.cell? ⟨g, j, none⟩ := fun j hj => World.cell?_setCell_other _ ⟨g, k, none⟩ ⟨g, j, none⟩ _ (fun e => hj (by injection e with _ e2; exact e2.symm))
  obtain ⟨v0, hv0⟩ := h.row.any k hkl
  have hsame := World.cell?_setCell_same w2 ⟨g, k, none⟩ (.string (bStr (unesc raw))) (hcell k v0 hv0)
  refine ⟨⟨hcal.upd.blkT (k + 1) (fun hh => by have := hh.2; omega) ty2, fun j hj => ?_, fun j s hj hsj => ?_⟩, h.ge, Nat.le_trans h.size (Nat.le_trans hu.size hcal.upd.size), fun i q' x' hq hx' => ?_, ?_, fun i x' hi hx' => ?_, ?_⟩
  · by_cases hjk : j = k
    · subst hjk; exact ⟨_, hsame⟩
    · obtain ⟨v, hv⟩ := h.row.any j hj
      exact ⟨v, (hset j hjk).trans (hcell j v hv)⟩
  · by_cases hjk : j = k
    · subst hjk
      rw [List.getElem?_map, hx] at hsj
      injection hsj with hsj
      subst hsj
      exact hsame
    · exact (hset j hjk).trans (hcell j _ (h.row.done j s (by omega) hsj))
  · exact Leaf.calm hcal (Leaf.read hT al hs hd hu (h.leaf i q' x' hq hx'))
  · obtain ⟨gA, e, hgA, hp⟩ := h.pts
    have hne : gA ≠ q.1 := fun e => absurd (blkT_uniq (e ▸ hgA) hT) (by decide)
    have hne2 : gA ≠ g := fun e => absurd (blkT_uniq (e ▸ hgA) h.row.ty) (by decide)
    have hgA2 : blkT w2 gA 122 := hu.blkT 0 (fun hh => hne hh.1) hgA
    exact ⟨gA, e, hcal.blkP hgA2, fun i q' hq => ((World.cell?_setCell_other _ ⟨g, k, none⟩ ⟨gA, i, none⟩ _ (fun e => hne2 (by injection e with e1 _; exact e1.symm))).trans (hu.cell gA i (blkT_lt hgA) (fun hh => hne hh.1))).trans (hp i q' hq)⟩
  · by_cases hik : i = k
    · subst hik
      rw [hx] at hx'
      injection hx' with hx'
      subst hx'
      rfl
    · exact h.str i x' (by omega) hx'
  · exact (h.below.trans (hu.below B h.size (fun b' o' hb' hh => by have := hh.1; omega))).trans (hcal.upd.below B (Nat.le_trans h.size hu.size) (fun b' o' hb' hh => by have := hh.1; have := h.ge; omega))
theorem ArrLp.C {B : Nat} {w : World} {A : Option Addr} {ps : List (Nat × Nat)} {xs : List JV} {g : Nat} {wr : World} (h : ArrLp B w A ps xs g xs.length wr) (hm : xs.length ≤ 9223372036854775807) : xs.all isStr = true ∧ Kd.string.C wr (some ⟨g, 0, none⟩) xs.length (xs.map strB) := by
  refine ⟨List.all_eq_true.2 fun x hx => ?_, by simp, by simpa using hm, fun _ => ⟨_, rfl, fun j p hj => ?_⟩⟩
  · obtain ⟨i, hi, rfl⟩ := List.getElem_of_mem hx
    exact h.str i _ hi (List.getElem?_eq_getElem hi)
  · have hjl : j < xs.length := by
      have := (List.getElem?_eq_some_iff.1 hj).1
      simpa using this
    refine ⟨[.string p], rfl, rfl, fun i u hu => ?_⟩
    cases i with
    | zero =>
      have hu' : Value.string p = u := by simpa using hu
      subst hu'
      have := h.row.done j p hjl hj
      simp [Kd.string, Kd.scalar, Addr.add]
      split
      · next h0 => subst h0; exact this
      · exact this
    | succ i => simp at hu
theorem ArrLp.start {B : Nat} {w w1 w2 : World} {A : Option Addr} {ps : List (Nat × Nat)} {xs : List JV} {v : Value} (hb : Below B w w1) (hB : B ≤ w1.heap.size) (hne : 0 < xs.length)
    (hS : Hold w1 w1.heap.size w2 [.row Kd.string 9 v (List.replicate xs.length ByteArray.empty)]) (hk : ∀ (i : Nat) (q : Nat × Nat) (x : JV), ps[i]? = some q → xs[i]? = some x → Leaf w1 B q.1 q.2 x)
    (hA : ∃ gA, A = some ⟨gA, 0, none⟩ ∧ blkT w1 gA 122 ∧ ∀ (i : Nat) (q : Nat × Nat), ps[i]? = some q → w1.cell? ⟨gA, i, none⟩ = some (ptr q)) :
    ∃ g c, v = .slice (some ⟨g, 0, none⟩) xs.length c ∧ xs.length ≤ c ∧ ArrLp B w A ps xs g 0 w2 := by
  obtain ⟨g, c, rfl, hle, hge, hty⟩ := row_blk hS (i := 0) rfl (by simpa using hne)
  simp only [List.length_replicate] at hle hS ⊢
  have hcal := Calm.of_below hS.below
  refine ⟨g, c, rfl, hle, ⟨hty, fun j hj => ?_, fun j s hj => absurd hj (Nat.not_lt_zero _)⟩, Nat.le_trans hB hge, Nat.le_trans hB hS.below.size, fun i q x hq hx => Leaf.calm hcal (hk i q x hq hx), ?_, fun i x hi => absurd hi (Nat.not_lt_zero _), hb.trans (hS.below.mono hB)⟩
  · exact ⟨_, hS.at1 0 rfl j (by simpa using hj)⟩
  · obtain ⟨gA, e, hg, hp⟩ := hA
    exact ⟨gA, e, hcal.blkP hg, fun i q hq => (hS.below.cell (p := ⟨gA, i, none⟩) (blkT_lt hg)).trans (hp i q hq)⟩
theorem ArrLp.room {B : Nat} {w : World} {A : Option Addr} {ps : List (Nat × Nat)} {xs : List JV} {g k : Nat} {wr w2 : World} {b o : Nat} (h : ArrLp B w A ps xs g k wr) (hk : k < xs.length) (hT : blkT wr b 174) (hu : Upd wr w2 (TxtCells b o)) :
    (∃ v, w2.cell? ⟨g, k, none⟩ = some v) ∧ w2.frozen? ⟨g, k, none⟩ = false := by
  have hgq : g ≠ b := fun e => absurd (blkT_uniq (e ▸ h.row.ty) hT) (by decide)
  obtain ⟨v, hv⟩ := h.row.any k (by rw [List.length_map]; exact hk)
  exact ⟨⟨v, (hu.cell g k (blkT_lt h.row.ty) (fun hh => hgq hh.1)).trans hv⟩, blkT_frozen (hu.blkT 0 (fun hh => hgq hh.1) h.row.ty) k⟩
end Go.Proofs.YtdldblfklalaeaaGreatDoor
