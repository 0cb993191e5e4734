/-
  slices.Grow over bytes of the call's own; AppendEncode of encoding/base64 and of inner/base64; impl.EncodedBehind: their contracts.
-/
import Derived.Test.YtlncbbmmlhammaaDoorEncode5
import Derived.Lib.AppendZerosOnto
import Derived.WalkKit
namespace Go.Proofs.YtlncbbmmlhammaaDoor
open Go.RowKit Go.Proofs.YtlncbbmmlhammaaDoorW.PrintWords Go.Lib
set_option linter.unusedVariables false
set_option linter.unusedSimpArgs false
/-- A row: nil, or at the beginning of a block. -/
theorem Hold.nilOr {w0 w : World} {B : Nat} {L : List Asrt} {e : Nat} {v : Value} {xs : List UInt8} (hS : Hold w0 B w (.row kB e v xs :: L)) :
    (v = .slice none 0 0 ∧ xs = []) ∨ ∃ g c, v = .slice (some ⟨g, 0, none⟩) xs.length c ∧ xs.length ≤ c := by
  obtain ⟨f, hp, hb⟩ := hS.get 0 rfl
  obtain ⟨h0, inner, ho, hr⟩ := hp
  rcases ho.2 with ⟨hv, hn⟩ | ⟨g, cap, cur, rfl, _, hh, hnc, hcm, hcs, htake⟩
  · exact .inl ⟨hv, List.eq_nil_of_length_eq_zero hn⟩
  · exact .inr ⟨g, cap, rfl, hnc⟩
theorem growRoom_any (w : World) (A : Option Addr) (l c n : Nat) (hc : c ≤ 9223372036854775807) (hl : l ≤ c) (hn : n ≤ 2000000000) (hr : l + n ≤ c) :
    Calls Tryd.prog 52 #[.slice A l c, .int .i64 n] w fun e w' => e = .returned (.slice A l c) ∧ w = w' := by
  have h2 : wrap64 ((c : Int) - (l : Int)) = (c : Int) - (l : Int) := by unfold wrap64; omega
  have h3 : wrap64 ((n : Int) - ((c : Int) - (l : Int))) = (n : Int) - ((c : Int) - (l : Int)) := by unfold wrap64; omega
  go_enter Tryd.func52, Tryd.ntmps52
  go_wp2
  go_ret
  exact ⟨rfl, rfl⟩
def GrewTo (w : World) (l c n : Nat) (cs : List Value) (e : Ending) (w' : World) : Prop := ∃ G ds, l + n ≤ G ∧ G ≤ maxLen ∧ ds.size = G ∧ ds.toList.take c = cs ∧
      e = .returned (.slice (some ⟨w.heap.size, 0, none⟩) l G) ∧ w' = w.drew.alloc (.cells ds 5)
set_option maxHeartbeats 4000000 in
set_option maxRecDepth 100000 in
theorem growMore_any (w : World) (base : Option Addr) (l c n : Nat) (cs : List Value) (hlc : l ≤ c) (hc : c ≤ 1000000000000) (hn : n ≤ 2000000000) (hl : l ≤ 4000000000) (hroom : c < l + n)
    (hcl : cs.length = c) (hnil : base = none → c = 0) (hcs : ∀ a, base = some a → ∀ j v, cs[j]? = some v → w.cell? (a.add j) = some v) :
    Calls Tryd.prog 52 #[.slice base l c, .int .i64 n] w fun e w' => GrewTo w l c n cs e w' := by
  have h2 : wrap64 ((c : Int) - (l : Int)) = (c : Int) - (l : Int) := by unfold wrap64; omega
  have h3 : wrap64 ((n : Int) - ((c : Int) - (l : Int))) = (n : Int) - ((c : Int) - (l : Int)) := by unfold wrap64; omega
  obtain ⟨i0, hi0⟩ : ∃ i, Tryd.prog.info? 5 = some i := by
    have := infoB
    cases h : Tryd.prog.info? 5 with
    | none => rw [h] at this; simp at this
    | some i => exact ⟨i, rfl⟩
  have hinf := infoB
  rw [hi0] at hinf
  simp only [Option.map_some, Option.some.injEq, Prod.mk.injEq] at hinf
  obtain ⟨hz0, hs0, hb0⟩ := hinf
  have hck : c + (l + n - c) = l + n := by omega
  have hold : (Builtin.firstCells i0.size c (.slice base c c)).run Tryd.prog w.drew = .ok cs.toArray w.drew := by
    cases base with
    | none =>
      have h0 := hnil rfl
      subst h0
      have hc0 : cs = [] := List.length_eq_zero_iff.1 hcl
      rw [hc0]
      exact run_firstCells_none w.drew i0.size 0 0 0
    | some a => exact run_firstCells_some w.drew i0.size c a c c cs (by rw [hs0]; omega) (fun j v hj => hcs a rfl j v hj)
  have hrz : ∀ ty, (Builtin.append_ #[22, 3] ty #[.slice base c c, .int .i64 ((n : Int) - ((c : Int) - (l : Int)))]).run Tryd.prog w =
      .ok (.slice (some ⟨w.heap.size, 0, none⟩) (l + n) (grownCap w (l + n) c 5)) (w.drew.alloc (.cells (cs.toArray ++ Builtin.zeroCells (Value.int .u8 0).cells (l + n - c) ++ Builtin.zeroCells (Value.int .u8 0).cells (grownCap w (l + n) c 5 - (l + n))) 5)) := fun ty => by
    have h := Lib.run_append_grow_zeros w 22 3 ty 5 i0 _ .i64 .i64 Tryd.underlying22 Tryd.underlying3 hi0 hz0 base c c cs hold (l + n - c) (by omega) (by omega) (by omega) (by omega)
      (by rw [hb0]; omega)
      (by rw [hck]; exact growslice_fits hroom (by rw [hb0]; omega))
    rw [hck] at h
    rw [show (n : Int) - ((c : Int) - (l : Int)) = ((l + n - c : Nat) : Int) by omega]
    exact h
  have hGn : l + n ≤ grownCap w (l + n) c 5 := grownCap_ge w _ _ _
  have hGm := grownCap_le_maxLen w (l + n) c 5 (by unfold maxLen; omega)
  obtain ⟨G, hG⟩ : ∃ G, G = grownCap w (l + n) c 5 := ⟨_, rfl⟩
  rw [← hG] at hrz hGn hGm
  have hG63 : G ≤ 9223372036854775807 := by
    unfold maxLen at hGm
    omega
  obtain ⟨ds, hds⟩ : ∃ ds, ds = cs.toArray ++ Builtin.zeroCells (Value.int .u8 0).cells (l + n - c) ++ Builtin.zeroCells (Value.int .u8 0).cells (G - (l + n)) := ⟨_, rfl⟩
  have hsz : ds.size = G := by
    have hz1 : ∀ k, (Builtin.zeroCells (Value.int .u8 0).cells k).size = k := by
      intro k
      simp [Builtin.zeroCells, Value.cells]
    rw [hds, Array.size_append, Array.size_append, hz1, hz1]
    simp
    omega
  have htk : ds.toList.take c = cs := by
    rw [hds, Array.toList_append, Array.toList_append, List.append_assoc, List.take_append_of_le_length (by simp; omega)]
    simp [← hcl]
  rw [← hds] at hrz
  have HR := Aside0.mk (And.intro hGm (And.intro hsz htk))
  clear hold hck hG hcs hcl hGm hds hsz htk
  go_enter Tryd.func52, Tryd.ntmps52
  cases base with
  | none =>
    have h0 := hnil rfl
    subst h0
    obtain rfl : l = 0 := by omega
    go_wp2_with (at_builtin; refine Lib.wpList_append_run _ rfl _ _ _ _ rfl _ _ rfl rfl _ _ (hrz _) ?_)
    all_goals (go_ret; unfold GrewTo; exact ⟨G, ds, hGn, HR.out.1, HR.out.2.1, HR.out.2.2, rfl, rfl⟩)
  | some a =>
    obtain ⟨ab, ao, asp⟩ := a
    go_wp2_with (at_builtin; refine Lib.wpList_append_run _ rfl _ _ _ _ rfl _ _ rfl rfl _ _ (hrz _) ?_)
    all_goals (go_ret; unfold GrewTo; exact ⟨G, ds, hGn, HR.out.1, HR.out.2.1, HR.out.2.2, rfl, rfl⟩)
theorem grow_any {w0 : World} {B : Nat} {L : List Asrt} (w : World) (n : Nat) (v : Value) (xs : List UInt8) (hn : n ≤ 2000000000) (hx : xs.length ≤ 4000000000) (H : Hold w0 B w (.row kB 5 v xs :: L)) :
    Calls Tryd.prog 52 #[v, .int .i64 n] w fun e w' => ∃ A c, e = .returned (.slice A xs.length c) ∧ xs.length + n ≤ c ∧ c ≤ maxLen ∧ (0 < c → ∃ g, A = some ⟨g, 0, none⟩) ∧ Hold w0 B w' (.row kB 5 (.slice A xs.length c) xs :: L) := by
  rcases H.nilOr with ⟨rfl, rfl⟩ | ⟨g, c, rfl, hc⟩
  · rcases Nat.eq_zero_or_pos n with rfl | h0
    · refine (growRoom_any w none 0 0 0 (by omega) (by omega) hn (by omega)).mono ?_
      rintro e w' ⟨rfl, rfl⟩
      exact ⟨none, 0, rfl, by simp, by unfold maxLen; omega, fun h => absurd h (by omega), H⟩
    · refine (growMore_any w none 0 0 n [] (by omega) (by omega) hn (by omega) (by omega) rfl (fun _ => rfl) (fun a h => by cases h)).mono ?_
      rintro e w' ⟨G, ds, h1, h2, h3, h4, rfl, rfl⟩
      refine ⟨some ⟨w.heap.size, 0, none⟩, G, rfl, by simpa using h1, h2, fun _ => ⟨_, rfl⟩, ?_⟩
      have h := ((H.drew.tail).alloc (.cells ds 5)).blkRow (enc := bV) (h1 := fun _ => rfl) 0 rfl (n := 0) (cap := G) (xs := []) h3 (by omega) h2 (by simp) rfl
      exact h
  · obtain ⟨cs, hsz, hnc, hcm, ht, _, hB⟩ := H.rowOpen 0 rfl
    rcases Nat.lt_or_ge c (xs.length + n) with h0 | h0
    · have hcell : ∀ j v, cs.toList[j]? = some v → w.cell? ⟨g, j, none⟩ = some v := by
        intro j v hj
        have hjl : j < cs.size := by
          have := (List.getElem?_eq_some_iff.1 hj).1
          simpa using this
        have := (hB.cell 0 rfl j hjl).1
        rw [this]
        rw [List.getElem?_eq_getElem (by simpa using hjl)] at hj
        simpa using hj
      refine (growMore_any w (some ⟨g, 0, none⟩) xs.length c n cs.toList hc (by omega) hn hx h0 (by simpa using hsz) (fun h => by cases h) (fun a ha j v hj => by
        injection ha with ha
        subst ha
        have h1 := hcell j v hj
        unfold Addr.add
        by_cases hj0 : j = 0
        · subst hj0
          simpa using h1
        · simpa [hj0] using h1)).mono ?_
      rintro e w' ⟨G, ds, h1, h2, h3, h4, rfl, rfl⟩
      refine ⟨some ⟨w.heap.size, 0, none⟩, G, rfl, h1, h2, fun _ => ⟨_, rfl⟩, ?_⟩
      have htk : ds.toList.take xs.length = xs.map bV := by
        rw [← ht, ← h4, List.take_take, Nat.min_eq_left hc]
      have h := ((H.drew.tail).alloc (.cells ds 5)).blkRow (enc := bV) (h1 := fun _ => rfl) 0 rfl (n := xs.length) (cap := G) (xs := xs) h3 (by omega) h2 htk rfl
      exact h
    · refine (growRoom_any w (some ⟨g, 0, none⟩) xs.length c n (by unfold maxLen at hcm; omega) hc hn h0).mono ?_
      rintro e w' ⟨rfl, rfl⟩
      exact ⟨some ⟨g, 0, none⟩, c, rfl, h0, hcm, fun _ => ⟨g, rfl⟩, H⟩
end Go.Proofs.YtlncbbmmlhammaaDoor
