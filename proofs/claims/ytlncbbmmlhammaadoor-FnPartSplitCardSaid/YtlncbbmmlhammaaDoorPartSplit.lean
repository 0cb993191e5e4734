/-
  FnPartSplit: its walk.
-/
import Derived.Test.YtlncbbmmlhammaaDoorSplitT
import Derived.Test.YtlncbbmmlhammaaDoorArg
namespace Go.Proofs.YtlncbbmmlhammaaDoor
open Go.RowKit Go.Proofs.YtlncbbmmlhammaaDoorW.PrintWords Go.Lib
set_option linter.unusedVariables false
set_option linter.unusedSimpArgs false
theorem Hold.CatS {α : Type} {d : Kd α} {w0 w : World} {B : Nat} {L : List Asrt} {e n c : Nat} {A : Option Addr} {xs : List α} (hS : Hold w0 B w L) (i : Nat) (hi : L[i]? = some (.row d e (.slice A n c) xs)) : d.C w A n xs := by
  obtain ⟨A', c', he, _, hC⟩ := hS.reads i hi
  injection he with h1 h2 h3
  subst h1 h2 h3
  exact hC
/-- The segments that are held, three of them or not. -/
theorem SegHold.three {w wr : World} {v : Value} {xs x y z : List UInt8} (h : SegHold w wr v (segFold xs)) (h3 : segsL xs = [x, y, z]) :
    ∃ (s1 s2 s3 : Sl) (g c : Nat), v = .slice (some ⟨g, 0, none⟩) 3 c ∧ 3 ≤ c ∧ Hold w w.heap.size wr [.row kSl 22 v [s1, s2, s3], .row kB 5 (slV s3) z, .row kB 5 (slV s2) y, .row kB 5 (slV s1) x] := by
  obtain ⟨s, ss, hl, H⟩ := h
  unfold segsL at h3
  obtain ⟨st, hst⟩ : ∃ st, st = segFold xs := ⟨_, rfl⟩
  rw [← hst] at hl H h3
  clear hst
  obtain ⟨cur, done⟩ := st
  have hl : ss.length = done.length := hl
  have h3 : done.reverse ++ [cur] = [x, y, z] := h3
  have hd : done.length = 2 := by
    have := congrArg List.length h3
    simp at this
    omega
  obtain ⟨d1, d2, rfl⟩ : ∃ a b, done = [a, b] := by
    match done, hd with
    | [a, b], _ => exact ⟨a, b, rfl⟩
  obtain ⟨s2, s1, rfl⟩ : ∃ a b, ss = [a, b] := by
    match ss, hl with
    | [a, b], _ => exact ⟨a, b, rfl⟩
  simp only [List.reverse_cons, List.reverse_nil, List.nil_append, List.singleton_append, List.cons_append, List.cons.injEq, and_true] at h3
  obtain ⟨rfl, rfl, rfl⟩ := h3
  obtain ⟨g, c, hv, hc, _⟩ := H.form 0 rfl (by simp)
  exact ⟨s1, s2, s, g, c, hv, hc, H⟩
theorem isplNo {w : World} {e : Ending} {w' : World} {L : List (List UInt8)} (hL : L.length ≠ 3) (h : ISplPost w e w' L) : e = .returned (.tuple #[.slice none 0 0, .slice none 0 0, .slice none 0 0, .bool false]) ∧ Hold w w.heap.size w' [] := by
  match L, hL, h with
  | [], _, h => exact h
  | [a], _, h => exact h
  | [a, b], _, h => exact h
  | [a, b, c], hl, _ => exact absurd rfl hl
  | a :: b :: c :: d :: r, _, h => exact h
theorem SegHold.other {w wr : World} {v : Value} {xs : List UInt8} (h : SegHold w wr v (segFold xs)) (h3 : (segsL xs).length ≠ 3) : ∃ (A : Option Addr) (n c : Nat), v = .slice A n c ∧ n ≠ 3 ∧ n ≤ c ∧ Below w.heap.size w wr := by
  obtain ⟨s, ss, hl, H⟩ := h
  obtain ⟨A, c, hv, hc, _⟩ := H.reads 0 rfl
  refine ⟨A, _, c, hv, ?_, hc, H.below⟩
  unfold segsL at h3
  simp only [List.length_append, List.length_reverse, List.length_singleton] at h3 ⊢
  rw [hl]
  exact h3
set_option maxRecDepth 100000 in
set_option maxHeartbeats 8000000 in
theorem partSplit_any (w : World) (A : Option Addr) (n c : Nat) (xs : List UInt8) (t : TypeId) (v : Value) (hG : w.cell? ⟨0, 0, none⟩ = some (.iface t v)) (hnc : n ≤ c) (hC : kB.C w A n xs) :
    Calls Tryd.prog 3 #[.slice A n c] w fun e w' => e = .returned (.bool true) ∧ Below w.heap.size w w' := by
  obtain rfl := hC.1
  have hx : xs.length ≤ 9223372036854775807 := hC.2.1
  have HC := Aside0.mk hC
  have HG := Aside0.mk hG
  clear hG
  by_cases hl : 2147483647 < xs.length
  · clear hC
    go_enter Tryd.func3, Tryd.ntmps3
    go_wp2
    go_ret
    exact ⟨rfl, Below.refl _ _⟩
  · have hl' : xs.length ≤ 2147483647 := by omega
    have hCS := CS_lit w 22 _ rfl [.slice A xs.length c] [xs] rfl (by simp) (fun j hj => by
      obtain rfl : j = 0 := by simp at hj; omega
      exact RdS.mk' hC hnc)
    have HCS := Aside0.mk hCS
    have H1 := Aside0.mk ((Hold.start w).alloc_ (.cells #[.slice A xs.length c] 22))
    clear hC hCS
    go_enter Tryd.func3, Tryd.ntmps3
    go_wp2_with fail
    refine (short_any _ _ _ _ [xs] HCS.out).mono ?_
    rintro e w1 ⟨rfl, rfl⟩
    cases hb : shortOk [xs] with
    | false =>
      clear hb
      go_wp2_with fail
      refine (partAwake_any _).mono ?_
      rintro e w2 ⟨rfl, hM⟩
      have HZ := Aside0.mk (H1.out.of_below hM.below)
      clear hM
      go_wp2
      go_ret
      exact ⟨rfl, HZ.out.below⟩
    | true =>
      have hlen : xs.length ≤ 2000 := by
        unfold shortOk at hb
        simpa using hb
      clear hb HCS
      go_wp2_with fail
      refine (own_any _ A _ c xs (by omega) (H1.out.C HC.out)).mono ?_
      rintro e w2 ⟨v2, rfl, hH⟩
      obtain ⟨A2, c2, rfl, _, _⟩ := hH.reads 0 rfl
      have H2 := Aside0.mk (H1.out.app hH)
      clear hH H1
      go_wp2_with fail
      refine (implSplit_any _ A2 _ c2 xs t v (pw_cell_below H2.out.below HG.out) (by omega) (H2.out.CatS 0 rfl)).mono ?_
      obtain ⟨L, hL⟩ : ∃ L, L = segsL xs := ⟨_, rfl⟩
      rw [← hL]
      have HLL := Aside0.mk hL
      clear hL
      rcases segs3 L with ⟨x, y, z, rfl⟩ | ⟨h1, h2, h3⟩
      · rintro e w3 ⟨u1, u2, u3, rfl, hH⟩
        obtain ⟨B3, d3, rfl, _, _⟩ := hH.reads 0 rfl
        obtain ⟨B2, d2, rfl, _, _⟩ := hH.reads 1 rfl
        obtain ⟨B1, d1, rfl, _, _⟩ := hH.reads 2 rfl
        have H3 := Aside0.mk ((H2.out.app hH).pick [0, 1, 2] (by decide) (L' := [.row kB 5 (.slice B3 z.length d3) z, .row kB 5 (.slice B2 y.length d2) y, .row kB 5 (.slice B1 x.length d1) x]) rfl)
        clear hH H2
        have gk := kB_string (P := Tryd.prog) c Tryd.underlying22 Tryd.underlying5 Tryd.underlying9 (H3.out.C HC.out)
        obtain ⟨s, hs⟩ : ∃ s, s = bStr xs := ⟨_, rfl⟩
        rw [← hs] at gk
        have HS := Aside0.mk hs
        clear hs
        go_wp2_with fail
        rw [HS.out]
        refine (splitText_any _ xs t v (pw_cell_below H3.out.below HG.out) (by omega)).mono ?_
        rw [← HLL.out]
        rintro e w4 ⟨u1, u2, u3, rfl, hH⟩
        obtain ⟨E3, f3, rfl, _, _⟩ := hH.reads 0 rfl
        obtain ⟨E2, f2, rfl, _, _⟩ := hH.reads 1 rfl
        obtain ⟨E1, f1, rfl, _, _⟩ := hH.reads 2 rfl
        have H4 := Aside0.mk (H3.out.app hH)
        clear hH H3 gk
        go_wp2_with fail
        refine (segs_any _ A _ c xs (by omega) (H4.out.C HC.out)).mono ?_
        rintro e w5 ⟨v5, rfl, hSg⟩
        obtain ⟨s1, s2, s3, g, cg, rfl, hcg, hH⟩ := hSg.three HLL.out.symm
        have H5 := Aside0.mk (H4.out.app hH)
        obtain ⟨a1, l1, k1⟩ := s1
        obtain ⟨a2, l2, k2⟩ := s2
        obtain ⟨a3, l3, k3⟩ := s3
        have t1 : w5.cell? ⟨g, 0, none⟩ = some (.slice a1 l1 k1) := hH.at1 0 rfl 0 (by simp)
        have t2 : w5.cell? ⟨g, 1, none⟩ = some (.slice a2 l2 k2) := hH.at1 0 rfl 1 (by simp)
        have t3 : w5.cell? ⟨g, 2, none⟩ = some (.slice a3 l3 k3) := hH.at1 0 rfl 2 (by simp)
        clear hH H4 hSg
        have q1 := H5.out.CatS 9 rfl
        have q2 := H5.out.CatS 3 rfl
        go_wp2_with fail
        refine (same_any _ _ _ _ _ _ _ _ _ q1 q2).mono ?_
        rintro e w6 ⟨rfl, q, rfl⟩
        rw [decide_eq_true rfl]
        have h' := H5.out.drewN q
        have H6 := Aside0.mk h'
        clear h' q1 q2 H5
        have q1 := H6.out.CatS 8 rfl
        have q2 := H6.out.CatS 2 rfl
        go_wp2_with fail
        refine (same_any _ _ _ _ _ _ _ _ _ q1 q2).mono ?_
        rintro e w7 ⟨rfl, q, rfl⟩
        rw [decide_eq_true rfl]
        have h' := H6.out.drewN q
        rw [World.drewN_drewN] at h'
        have H7 := Aside0.mk h'
        clear h' q1 q2 H6
        have q1 := H7.out.CatS 7 rfl
        have q2 := H7.out.CatS 1 rfl
        go_wp2_with fail
        refine (same_any _ _ _ _ _ _ _ _ _ q1 q2).mono ?_
        rintro e w8 ⟨rfl, q, rfl⟩
        rw [decide_eq_true rfl]
        have h' := H7.out.drewN q
        rw [World.drewN_drewN] at h'
        have H8 := Aside0.mk h'
        clear h' q1 q2 H7
        have q1 := H8.out.CatS 6 rfl
        have q2 := H8.out.CatS 3 rfl
        go_wp2_with fail
        refine (same_any _ _ _ _ _ _ _ _ _ q1 q2).mono ?_
        rintro e w9 ⟨rfl, q, rfl⟩
        rw [decide_eq_true rfl]
        have h' := H8.out.drewN q
        rw [World.drewN_drewN] at h'
        have H9 := Aside0.mk h'
        clear h' q1 q2 H8
        have q1 := H9.out.CatS 5 rfl
        have q2 := H9.out.CatS 2 rfl
        go_wp2_with fail
        refine (same_any _ _ _ _ _ _ _ _ _ q1 q2).mono ?_
        rintro e w10 ⟨rfl, q, rfl⟩
        rw [decide_eq_true rfl]
        have h' := H9.out.drewN q
        rw [World.drewN_drewN] at h'
        have H10 := Aside0.mk h'
        clear h' q1 q2 H9
        have q1 := H10.out.CatS 4 rfl
        have q2 := H10.out.CatS 1 rfl
        go_wp2_with fail
        refine (same_any _ _ _ _ _ _ _ _ _ q1 q2).mono ?_
        rintro e w11 ⟨rfl, q, rfl⟩
        rw [decide_eq_true rfl]
        have h' := H10.out.drewN q
        rw [World.drewN_drewN] at h'
        have H11 := Aside0.mk h'
        clear h' q1 q2 H10
        go_wp2_with fail
        refine (partAwake_any _).mono ?_
        rintro e w12 ⟨rfl, hM⟩
        have HZ := Aside0.mk (H11.out.of_below hM.below)
        clear hM
        go_wp2
        go_ret
        exact ⟨rfl, HZ.out.below⟩
      · have HP2 := Aside0.mk h2
        have HP3 := Aside0.mk h3
        clear h1 h2 h3
        intro e w3 hp
        obtain ⟨rfl, hH⟩ := isplNo HP3.out hp
        have H3 := Aside0.mk (H2.out.of_below hH.below)
        clear hp hH H2
        have gk := kB_string (P := Tryd.prog) c Tryd.underlying22 Tryd.underlying5 Tryd.underlying9 (H3.out.C HC.out)
        obtain ⟨s, hs⟩ : ∃ s, s = bStr xs := ⟨_, rfl⟩
        rw [← hs] at gk
        have HS := Aside0.mk hs
        clear hs
        go_wp2_with fail
        rw [HS.out]
        refine (splitText_any _ xs t v (pw_cell_below H3.out.below HG.out) (by omega)).mono ?_
        rw [← HLL.out]
        intro e w4 hp
        obtain ⟨rfl, hH⟩ := isplNo HP3.out hp
        have H4 := Aside0.mk (H3.out.of_below hH.below)
        clear hp hH H3 gk
        go_wp2_with fail
        refine (segs_any _ A _ c xs (by omega) (H4.out.C HC.out)).mono ?_
        rintro e w5 ⟨v5, rfl, hSg⟩
        obtain ⟨A5, n5, c5, rfl, hn5, _, hb⟩ := hSg.other (by rw [← HLL.out]; exact HP3.out)
        have H5 := Aside0.mk (H4.out.of_below hb)
        have b5 : ((n5 : Int) != 3) = true := by rw [bne_iff_ne]; omega
        clear hSg hb hn5 H4
        go_wp2_with fail
        refine (partAwake_any _).mono ?_
        rintro e w12 ⟨rfl, hM⟩
        have HZ := Aside0.mk (H5.out.of_below hM.below)
        clear hM
        go_wp2
        go_ret
        exact ⟨rfl, HZ.out.below⟩
theorem partSplit_row (A : Option Addr) (n c : Nat) (xs : List UInt8) (w : World) (hC : kB.C w A n xs) (_ : AllOk AnyOk xs) (hn : xs.length * 1 ≤ 140737488351232 ∧ n ≤ c) (t : TypeId) (v : Value) (hG : w.cell? ⟨0, 0, none⟩ = some (.iface t v)) :
    Calls Tryd.prog 3 #[.slice A n c] w fun e w' => e = .returned (.bool true) ∧ Below w.heap.size w w' := partSplit_any w A n c xs t v hG hn.2 hC
end Go.Proofs.YtlncbbmmlhammaaDoor
