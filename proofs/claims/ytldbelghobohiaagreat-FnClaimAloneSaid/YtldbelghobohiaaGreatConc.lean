/-
  slices.Clone, slices.Grow, slices.Concat of fields; laws.mapText: their contracts.
-/
import Derived.Test.YtldbelghobohiaaGreatFg
import Derived.Lib.AppendZerosOnto
import Derived.LoopN
import Derived.Laws.Rows
namespace Go.Proofs.YtldbelghobohiaaGreat
open Go.RowKit Go.Proofs.YtldbelghobohiaaGreatW.PrintWords Go.ChangeShapes Go.WideShapes
set_option linter.unusedVariables false
set_option linter.unusedSimpArgs false
set_option maxRecDepth 100000
def fz : Value := .agg #[.string ByteArray.empty, .int .i64 0, .string ByteArray.empty, .bool false, .int .i32 0, .slice none 0 0]
theorem infoF : (Tryz.prog.info? 30).map (fun i => (i.zero, i.size, i.bytes)) = some (some fz, 6, 72) := by kernel_rfl
theorem emptyRowF (w : World) (g : Nat) (hg : w.heap.size = g) : Hold w w.heap.size (w.alloc (.cells #[] 30)) [.row kFg 30 (.slice (some ⟨g, 0, none⟩) 0 0) []] := by
  subst hg
  exact ((Hold.start w).alloc (.cells #[] 30)).toRow 0 (d := kFg) (n := 0) (c := 0) (xs := []) rfl (Reps.none _ _) rfl (Nat.le_refl _) (Nat.zero_le _) rfl
set_option maxHeartbeats 1000000 in
theorem fclone_any (w : World) (A : Option Addr) (n c : Nat) (gs : List Fg) (hn : n ≤ 2147483647) (hC : kFg.C w A n gs) :
    Calls Tryz.prog 6 #[.slice A n c] w fun e w' => ∃ v, e = .returned v ∧ Hold w w.heap.size w' [.row kFg 30 v gs] := by
  cases A with
  | none =>
    have hx : gs = [] := by
      rcases Nat.eq_zero_or_pos n with h | h
      · exact List.eq_nil_of_length_eq_zero (hC.1.trans h)
      · obtain ⟨ad, e, _⟩ := hC.2.2 h
        cases e
    have hnil0 := fun W : World => Lib.run_eql_slice_nil (P := Tryz.prog) W 22 30 none n c 0 0 Tryz.underlying22
    have HX := Aside0.mk hx
    clear hx hC
    go_enter Tryz.func6, Tryz.ntmps6
    go_wp2
    go_ret
    rw [HX.out]
    exact ⟨_, rfl, (Hold.start w).nil _ _⟩
  | some ad =>
    have hnil := fun W : World => Lib.run_eql_slice_nil (P := Tryz.prog) W 22 30 (some ad) n c 0 0 Tryz.underlying22
    have H0 := Aside0.mk (emptyRowF w _ rfl)
    have HC := Aside0.mk hC
    have Hl : Aside0 ((([] : List Fg).length + n) * 72 ≤ 140737488355328) := ⟨by simp; omega⟩
    clear hC
    go_enter Tryz.func6, Tryz.ntmps6
    go_wp2_with ((with_reducible refine at_bi (b := .append) (xs := #[.tmp 5, .tmp 6]) rfl ?_); at_builtin; refine Hold.appendRowG kFg 0 H0.out rfl rfl (.tmp 5) (.tmp 6) 22 fz 72 rfl Tryz.underlying22 infoF rfl (by decide) (by omega) (some ad) n c rfl rfl (Kd.C_below HC.out H0.out.below) (fun x cs h => h) Hl.out ?_; intro _ _ H1'; have H1 := Aside0.mk H1'; clear H1' H0)
    go_ret
    exact ⟨_, rfl, H1.out⟩
theorem mapText_any (w : World) (a b : ByteArray) :
    Calls Tryz.prog 7 #[.string a, .string b] w fun e w' => e = .returned (.agg #[.string a, .int .i64 0, .string b, .bool false, .int .i32 0, .slice none 0 0]) ∧ Hold w w.heap.size w' [] := by
  have hu := Tryz.underlying30
  have hu2 := Tryz.underlying28
  have H1 := Aside0.mk ((Hold.start w).alloc (.cells #[.string a, .int .i64 0, .string b, .bool false, .int .i32 0, .slice none 0 0] 30))
  go_enter Tryz.func7, Tryz.ntmps7
  go_wp2
  refine bodyPost_ret (results_cell_row rfl _ _ w.heap.size 30 _ (0, 0) _ rfl (H1.out.blk 0 rfl) Tryz.underlying30 rfl (by kernel_rfl)) rfl ?_
  exact ⟨rfl, H1.out.tail⟩
theorem growF_any (w : World) (n : Nat) (h0 : 0 < n) (hn : n ≤ 1000000) :
    Calls Tryz.prog 19 #[.slice none 0 0, .int .i64 n] w fun e w' => ∃ v, e = .returned v ∧ Hold w w.heap.size w' [.row kFg 30 v []] := by
  obtain ⟨i0, hi0⟩ : ∃ i, Tryz.prog.info? 30 = some i := by
    have := infoF
    cases h : Tryz.prog.info? 30 with
    | none => rw [h] at this; simp at this
    | some i => exact ⟨i, rfl⟩
  have hinf := infoF
  rw [hi0] at hinf
  simp only [Option.map_some, Option.some.injEq, Prod.mk.injEq] at hinf
  obtain ⟨hz0, hs0, hb0⟩ := hinf
  have h2 : wrap64 ((0 : Int) - (0 : Int)) = 0 := by unfold wrap64; omega
  have h3 : wrap64 ((n : Int) - (0 : Int)) = (n : Int) := by unfold wrap64; omega
  have hold : (Builtin.firstCells i0.size 0 (.slice none 0 0)).run Tryz.prog w.drew = .ok ([] : List Value).toArray w.drew := run_firstCells_none w.drew i0.size 0 0 0
  have hrz : ∀ ty, (Builtin.append_ #[22, 3] ty #[.slice none 0 0, .int .i64 (n : Int)]).run Tryz.prog w =
      .ok (.slice (some ⟨w.heap.size, 0, none⟩) n (grownCap w n 0 30)) (w.drew.alloc (.cells (([] : List Value).toArray ++ Builtin.zeroCells fz.cells n ++ Builtin.zeroCells fz.cells (grownCap w n 0 30 - n)) 30)) := fun ty => by
    have h := Lib.run_append_grow_zeros w 22 3 ty 30 i0 _ .i64 .i64 Tryz.underlying22 Tryz.underlying3 hi0 hz0 none 0 0 [] hold n h0 (by omega) (by omega) (by omega)
      (by rw [hb0]; omega)
      (by rw [Nat.zero_add]; exact growslice_fits h0 (by rw [hb0]; omega))
    rw [Nat.zero_add] at h
    exact h
  have hGn : n ≤ grownCap w n 0 30 := grownCap_ge w _ _ _
  have hGm := grownCap_le_maxLen w n 0 30 (by unfold maxLen; omega)
  obtain ⟨G, hG⟩ : ∃ G, G = grownCap w n 0 30 := ⟨_, rfl⟩
  rw [← hG] at hrz hGn hGm
  have hG63 : G ≤ 9223372036854775807 := by
    unfold maxLen at hGm
    omega
  obtain ⟨ds, hds⟩ : ∃ ds, ds = ([] : List Value).toArray ++ Builtin.zeroCells fz.cells n ++ Builtin.zeroCells fz.cells (G - n) := ⟨_, rfl⟩
  have hsz : ds.size = G * 6 := by
    have hz1 : ∀ k, (Builtin.zeroCells fz.cells k).size = k * 6 := fun k => by simp [Builtin.zeroCells, fz, Value.cells]
    rw [hds, Array.size_append, Array.size_append, hz1, hz1]
    simp
    omega
  rw [← hds] at hrz
  have HR := Aside0.mk ((((Hold.start w).drew.alloc (.cells ds 30)).toRow 0 (d := kFg) (n := 0) (c := G) (xs := []) rfl (by simpa using Reps.none _ _) rfl (Nat.zero_le _) hGm hsz))
  clear hold hG hGm hds hsz
  go_enter Tryz.func19, Tryz.ntmps19
  go_wp2_with (at_builtin; refine Lib.wpList_append_run _ rfl _ _ _ _ rfl _ _ rfl rfl _ _ (hrz _) ?_)
  go_ret
  exact ⟨_, rfl, HR.out⟩
set_option maxHeartbeats 4000000 in
theorem concat4_any {w0 : World} {B : Nat} (w : World) (g : Nat) (A0 A1 A2 A3 : Option Addr) (n0 n1 n2 n3 c0 c1 c2 c3 : Nat) (a b p q : List Fg) (hn : n0 + n1 + n2 + n3 ≤ 1000) (hp : 0 < n3)
    (k0 : w.cell? ⟨g, 0, none⟩ = some (.slice A0 n0 c0)) (k1 : w.cell? ⟨g, 1, none⟩ = some (.slice A1 n1 c1)) (k2 : w.cell? ⟨g, 2, none⟩ = some (.slice A2 n2 c2)) (k3 : w.cell? ⟨g, 3, none⟩ = some (.slice A3 n3 c3))
    (hC0 : kFg.C w A0 n0 a) (hC1 : kFg.C w A1 n1 b) (hC2 : kFg.C w A2 n2 p) (hC3 : kFg.C w A3 n3 q) :
    Calls Tryz.prog 12 #[.slice (some ⟨g, 0, none⟩) 4 4] w fun e w' => ∃ v, e = .returned v ∧ Hold w w.heap.size w' [.row kFg 30 v (a ++ b ++ p ++ q)] := by
  have HC0 := Aside0.mk hC0
  have HC1 := Aside0.mk hC1
  have HC2 := Aside0.mk hC2
  have HC3 := Aside0.mk hC3
  have la : a.length = n0 := hC0.1
  have lb : b.length = n1 := hC1.1
  have lp : p.length = n2 := hC2.1
  have lq : q.length = n3 := hC3.1
  have HL : Aside0 (a.length + b.length + p.length + q.length ≤ 1000) := ⟨by omega⟩
  have HS := Aside0.mk (show ∀ w1, Below w.heap.size w w1 → w1.cell? ⟨g, 0, none⟩ = some (.slice A0 n0 c0) ∧ w1.cell? ⟨g, 1, none⟩ = some (.slice A1 n1 c1) ∧ w1.cell? ⟨g, 2, none⟩ = some (.slice A2 n2 c2) ∧ w1.cell? ⟨g, 3, none⟩ = some (.slice A3 n3 c3) from
    fun w1 h => ⟨pw_cell_below h k0, pw_cell_below h k1, pw_cell_below h k2, pw_cell_below h k3⟩)
  have HN : Aside0 (a.length = n0 ∧ b.length = n1 ∧ p.length = n2 ∧ q.length = n3) := ⟨la, lb, lp, lq⟩
  clear hC0 hC1 hC2 hC3 la lb lp lq
  go_enter Tryz.func12, Tryz.ntmps12
  go_wp2
  refine wp_loop_rounds 5 ?_
  rw [rounds_succ]
  go_wp2
  rw [rounds_succ]
  go_wp2
  rw [rounds_succ]
  go_wp2
  rw [rounds_succ]
  go_wp2
  rw [rounds_succ]
  go_wp2_with fail
  have hg := growF_any w (n0 + n1 + n2 + n3) (by omega) (by omega)
  rw [show ((n0 + n1 + n2 + n3 : Nat) : Int) = (n0 : Int) + n1 + n2 + n3 by omega] at hg
  refine hg.mono ?_
  clear hg
  rintro e w1 ⟨v1, rfl, hH⟩
  have H1 := Aside0.mk hH
  clear hH k0 k1 k2 k3
  obtain ⟨k0, k1, k2, k3⟩ := HS.out _ H1.out.below
  go_wp2
  refine wp_loop_rounds 5 ?_
  have hl0 : Aside0 (([] : List Fg).length + n0 ≤ 1000) := ⟨by have := HL.out; have := HN.out; simp only [List.length_append, List.length_nil]; omega⟩
  rw [rounds_succ]
  go_wp2_with ((with_reducible refine at_bi (b := .append) (xs := #[.tmp 31, .tmp 32]) rfl ?_); at_builtin; refine Hold.appendRowG kFg 0 H1.out rfl rfl (.tmp 31) (.tmp 32) 22 fz 72 rfl Tryz.underlying22 infoF rfl (by decide) (by omega) A0 n0 c0 rfl rfl (H1.out.C HC0.out) (fun x cs h => h) (by have := hl0.out; omega) ?_; intro _ w2 h2; have H2 := Aside0.mk h2; clear h2 k0 k1 k2 k3; obtain ⟨k0, k1, k2, k3⟩ := HS.out _ H2.out.below)
  have hl1 : Aside0 ((([] : List Fg) ++ a).length + n1 ≤ 1000) := ⟨by have := HL.out; have := HN.out; simp only [List.length_append, List.length_nil]; omega⟩
  rw [rounds_succ]
  go_wp2_with ((with_reducible refine at_bi (b := .append) (xs := #[.tmp 31, .tmp 32]) rfl ?_); at_builtin; refine Hold.appendRowG kFg 0 H2.out rfl rfl (.tmp 31) (.tmp 32) 22 fz 72 rfl Tryz.underlying22 infoF rfl (by decide) (by omega) A1 n1 c1 rfl rfl (H2.out.C HC1.out) (fun x cs h => h) (by have := hl1.out; omega) ?_; intro _ w3 h3; have H3 := Aside0.mk h3; clear h3 k0 k1 k2 k3; obtain ⟨k0, k1, k2, k3⟩ := HS.out _ H3.out.below)
  have hl2 : Aside0 (((([] : List Fg) ++ a) ++ b).length + n2 ≤ 1000) := ⟨by have := HL.out; have := HN.out; simp only [List.length_append, List.length_nil]; omega⟩
  rw [rounds_succ]
  go_wp2_with ((with_reducible refine at_bi (b := .append) (xs := #[.tmp 31, .tmp 32]) rfl ?_); at_builtin; refine Hold.appendRowG kFg 0 H3.out rfl rfl (.tmp 31) (.tmp 32) 22 fz 72 rfl Tryz.underlying22 infoF rfl (by decide) (by omega) A2 n2 c2 rfl rfl (H3.out.C HC2.out) (fun x cs h => h) (by have := hl2.out; omega) ?_; intro _ w4 h4; have H4 := Aside0.mk h4; clear h4 k0 k1 k2 k3; obtain ⟨k0, k1, k2, k3⟩ := HS.out _ H4.out.below)
  have hl3 : Aside0 ((((([] : List Fg) ++ a) ++ b) ++ p).length + n3 ≤ 1000) := ⟨by have := HL.out; have := HN.out; simp only [List.length_append, List.length_nil]; omega⟩
  rw [rounds_succ]
  go_wp2_with ((with_reducible refine at_bi (b := .append) (xs := #[.tmp 31, .tmp 32]) rfl ?_); at_builtin; refine Hold.appendRowG kFg 0 H4.out rfl rfl (.tmp 31) (.tmp 32) 22 fz 72 rfl Tryz.underlying22 infoF rfl (by decide) (by omega) A3 n3 c3 rfl rfl (H4.out.C HC3.out) (fun x cs h => h) (by have := hl3.out; omega) ?_; intro _ w5 h5; have H5 := Aside0.mk h5; clear h5 k0 k1 k2 k3; obtain ⟨k0, k1, k2, k3⟩ := HS.out _ H5.out.below)
  rw [rounds_succ]
  go_wp2
  go_ret
  exact ⟨_, rfl, H5.out⟩
end Go.Proofs.YtldbelghobohiaaGreat
