/-
  spec's headStyle: next, blank; headShort, headDigits: their contracts.
-/
import Derived.Test.YtgldcjmdjhghpaaGreatDoorQm
import Derived.Test.YtgldcjmdjhghpaaGreatDoorQl
import Derived.Test.YtgldcjmdjhghpaaGreatDoorQn
namespace Go.Proofs.YtgldcjmdjhghpaaGreatDoor
open Go.RowKit Go.Proofs.YtgldcjmdjhghpaaGreatDoorW.PrintWords Go.ChangeShapes Go.WideShapes
set_option linter.unusedVariables false
set_option linter.unusedSimpArgs false
set_option maxRecDepth 100000
/-- The style's cell. -/
structure StyAt (w : World) (g x : Nat) : Prop where
  ty : blkT w g 43
  c : w.cell? ⟨g, 0, none⟩ = some (.int .u64 (x : Int))
def StyC (g : Nat) : CellSet := fun b o => b = g ∧ o = 0
theorem StyAt.on {w w' : World} {g x : Nat} (h : StyAt w g x) (hb : Below w.heap.size w w') : StyAt w' g x :=
  ⟨(Upd.of_below hb (fun _ _ => False)).blkT 0 (fun h => h) h.ty, (hb.cell (p := ⟨g, 0, none⟩) (blkT_lt h.ty)).trans h.c⟩
theorem StyAt.set {w : World} {g x : Nat} (h : StyAt w g x) (y : Nat) : StyAt (w.setCell ⟨g, 0, none⟩ (.int .u64 (y : Int))) g y ∧ Upd w (w.setCell ⟨g, 0, none⟩ (.int .u64 (y : Int))) (StyC g) := by
  have hu : Upd w (w.setCell ⟨g, 0, none⟩ (.int .u64 (y : Int))) (StyC g) := Upd.setCell w g 0 _ ⟨rfl, rfl⟩
  exact ⟨⟨hu.blkT 1 (fun hh => by cases hh.2) h.ty, World.cell?_setCell_same w ⟨g, 0, none⟩ _ h.c⟩, hu⟩
/-- Behind a step of the style: the new state, and all else as it was. -/
def Sty (w : World) (g x : Nat) (w' : World) : Prop := StyAt w' g x ∧ Upd w w' (StyC g)
theorem Sty.refl {w : World} {g x : Nat} (h : StyAt w g x) : Sty w g x w := ⟨h, Upd.refl _ _⟩
theorem Sty.trans {w w1 w2 : World} {g x y : Nat} (h : Sty w g x w1) (k : Sty w1 g y w2) : Sty w g y w2 := ⟨k.1, h.2.trans k.2 (fun _ _ _ h => h) (fun _ _ _ h => h)⟩
theorem Sty.on {w w1 w2 : World} {g x : Nat} (h : Sty w g x w1) (hb : Below w1.heap.size w1 w2) : Sty w g x w2 := ⟨h.1.on hb, h.2.trans (Upd.of_below hb (fun _ _ => False)) (fun _ _ _ h => h) (fun _ _ _ h => h.elim)⟩
theorem next_any (w : World) (g x n : Nat) (h : StyAt w g x) (hx : x < 18446744073709551616) (hn : 0 < n) (hn2 : n < 100) :
    Calls Tryz.prog 28 #[.pointer (some ⟨g, 0, none⟩), .int .u64 (n : Int)] w fun e w' => e = .returned (.int .u64 (dr x n : Nat)) ∧ Sty w g (nxt x) w' := by
  have HS : Aside0 (Sty w g (nxt x) (w.setCell ⟨g, 0, none⟩ (.int .u64 (nxt x : Nat)))) := ⟨h.set _⟩
  have c0 := h.c
  have f0 := blkT_frozen h.ty 0
  obtain ⟨m, hm⟩ : ∃ m : Nat, m = x * 6364136223846793005 % 18446744073709551616 := ⟨_, rfl⟩
  obtain ⟨y, hy⟩ : ∃ y, y = nxt x := ⟨_, rfl⟩
  have hy2 : y = (m + 1442695040888963407) % 18446744073709551616 := by
    rw [hy, hm]
    unfold nxt
    omega
  have e1 : IntKind.u64.wrap ((x : Int) * 6364136223846793005) = (m : Int) := by
    rw [IntKind.wrap_u64, hm]
    omega
  have e2 : IntKind.u64.wrap ((m : Int) + 1442695040888963407) = (y : Int) := by
    rw [IntKind.wrap_u64, hy2]
    omega
  have hd : Aside0 (dr x n = y / 8589934592 % n) := ⟨by unfold dr; rw [hy]⟩
  obtain ⟨q, hq⟩ : ∃ q : Nat, q = y / 8589934592 := ⟨_, rfl⟩
  have e3 : (y : Int) / 8589934592 = (q : Int) := by omega
  rw [← hy] at HS ⊢
  rw [hd.out, ← hq]
  have hql : q < 2147483648 := by omega
  have hn3 : ¬ (n : Int) = 0 := by omega
  clear hm hy hy2 hx hq hd h
  go_enter Tryz.func28, Tryz.ntmps28
  go_wp2
  go_ret
  exact ⟨by rw [Int.natCast_emod]; rfl, HS.out⟩
theorem wsAll_at : ∀ d : Fin 4, (([32, 9, 10, 13] : Bs).take (d.val + 1)).drop d.val = [wsAt d.val] := by decide
theorem dr_lt (x n : Nat) (hn : 0 < n) : dr x n < n := Nat.mod_lt _ hn
/-- Where the making of blanks stands. -/
def BlkRel (w : World) (g x : Nat) (s : Value) (wr : World) : Prop :=
  ∃ (k y : Nat) (acc : Bs), s = .string (bStr acc) ∧ Sty w g y wr ∧ y < 18446744073709551616 ∧ Ends k y ∧ acc ++ (blankF k y).1 = (blk x).1 ∧ (blankF k y).2 = (blk x).2 ∧ acc.length + k ≤ NB + 1
theorem blank_end {k y : Nat} (hk : Ends k y) (h : y = 0) : blankF k y = ([], y) := by
  cases k with
  | zero => rfl
  | succ k => rw [blankF, if_pos h]
theorem blank_stop {k y : Nat} (hk : Ends k y) (h : y ≠ 0) (hd : dr y 4 ≠ 0) : blankF k y = ([], nxt y) := by
  cases k with
  | zero => cases hk
  | succ k => rw [blankF, if_neg h, if_neg hd]
theorem blank_more {k y : Nat} (hk : Ends k y) (h : y ≠ 0) (hd : dr y 4 = 0) : ∃ j, k = j + 1 ∧ Ends j (nxt (nxt y)) ∧ blankF k y = (wsAt (dr (nxt y) 4) :: (blankF j (nxt (nxt y))).1, (blankF j (nxt (nxt y))).2) := by
  cases k with
  | zero => cases hk
  | succ k =>
    refine ⟨k, rfl, ?_, by rw [blankF, if_neg h, if_pos hd]⟩
    rcases hk with hk | hk | hk
    · exact absurd hk h
    · exact absurd hd hk
    · exact hk
set_option maxHeartbeats 2000000 in
theorem blank_any (w : World) (g x : Nat) (h : StyAt w g x) (hx : x < 18446744073709551616) :
    Calls Tryz.prog 17 #[.pointer (some ⟨g, 0, none⟩)] w fun e w' => e = .returned (.string (bStr (blk x).1)) ∧ Sty w g (blk x).2 w' := by
  have H0 : Aside0 (BlkRel w g x (.string (bStr [])) w) := ⟨NB + 1, x, [], rfl, Sty.refl h, hx, ends_any x, rfl, rfl, by simp⟩
  obtain ⟨M, hM⟩ : ∃ M, M = NB + 2 := ⟨_, rfl⟩
  have HM := Aside0.mk hM
  have hMle : M ≤ 70000 := by rw [hM]; decide
  clear h hx hM
  go_enter Tryz.func17, Tryz.ntmps17
  go_wp2
  go_loopw [3] (fun s3 wr => BlkRel w g x s3 wr) (fun s3 _ => M - szOf s3)
  case atStart => exact H0.out
  case round =>
    clear H0
    obtain ⟨k, y, acc, rfl, hS, hy, hE, h1, h2, hl⟩ := hrel
    have c0 := hS.1.c
    by_cases h0 : y = 0
    · have e0 : ((y : Int) != 0) = false := by rw [bne_eq_false_iff_eq]; omega
      rw [blank_end hE h0] at h1 h2
      have HR : Aside0 (bStr acc = bStr (blk x).1 ∧ Sty w g (blk x).2 wr) := ⟨by rw [← h1, List.append_nil], by rw [← h2]; exact hS⟩
      obtain ⟨t, ht⟩ : ∃ t, t = bStr acc := ⟨_, rfl⟩
      rw [← ht] at HR ⊢
      clear hS hE h1 h2 hl h0 hy ht
      go_wp2
      go_ret
      exact ⟨by rw [← HR.out.1]; rfl, HR.out.2⟩
    · have e0 : ((y : Int) != 0) = true := by rw [bne_iff_ne]; omega
      have HN := Aside0.mk (next_any wr g y 4 hS.1 hy (by omega) (by omega))
      by_cases hd : dr y 4 = 0
      · obtain ⟨j, rfl, hEj, hb⟩ := blank_more hE h0 hd
        have HN2 := Aside0.mk (fun (w1 : World) (hS1 : StyAt w1 g (nxt y)) => next_any w1 g (nxt y) 4 hS1 (nxt_lt _) (by omega) (by omega))
        rw [hb] at h1 h2
        rw [hd] at HN
        obtain ⟨d, hdd⟩ : ∃ d, d = dr (nxt y) 4 := ⟨_, rfl⟩
        have hd4 : d < 4 := by rw [hdd]; exact dr_lt _ _ (by omega)
        rw [← hdd] at h1 HN2
        have HNew : Aside0 (∀ w2, Sty w g (nxt (nxt y)) w2 → BlkRel w g x (.string (bStr (acc ++ [wsAt d]))) w2) := ⟨fun w2 hS2 => ⟨j, nxt (nxt y), acc ++ [wsAt d], rfl, hS2, nxt_lt _, hEj, by rw [← h1]; simp, h2, by rw [List.length_append, List.length_singleton]; omega⟩⟩
        have HSt := Aside0.mk hS
        obtain ⟨t, ht⟩ : ∃ t, t = bStr acc := ⟨_, rfl⟩
        have hts : t.size ≤ 70000 := by rw [ht, bStr_size]; have := HM.out; omega
        have htM : t.size + 1 < M := by rw [ht, bStr_size]; have := HM.out; omega
        obtain ⟨u, hu⟩ : ∃ u, u = bStr [wsAt d] := ⟨_, rfl⟩
        have hus : u.size = 1 := by rw [hu]; rfl
        have hex : (⟨#[32, 9, 10, 13]⟩ : ByteArray).extract d (d + 1) = u := by
          rw [hu, ← wsAll_at ⟨d, hd4⟩]
          exact bStr_ext [32, 9, 10, 13] d (d + 1)
        have hus1 : u.size ≤ 1 := by omega
        have HT := Aside0.mk (And.intro ht (And.intro hu hus))
        rw [← ht]
        clear hS hE h1 h2 hl hb hdd hd ht hu hEj hus hy h0
        go_wp2_with fail
        refine HN.out.mono ?_
        rintro e w1 ⟨rfl, hS1⟩
        have HN3 := Aside0.mk (HN2.out w1 hS1.1)
        have HS1 := Aside0.mk (HSt.out.trans hS1)
        clear hS1
        go_wp2_with fail
        refine HN3.out.mono ?_
        rintro e w2 ⟨rfl, hS2⟩
        have HS2 := Aside0.mk (HS1.out.trans hS2)
        clear hS2 c0
        have d0 : (0 : Int) ≤ (d : Int) := by omega
        have d1 : (d : Int) < 4 := by omega
        go_wp2
        go_roundw
        case rel => rw [HT.out.1, HT.out.2.1, bStr_app]; exact HNew.out _ HS2.out
        case measure =>
          show M - (t ++ u).size < M - t.size
          rw [ByteArray.size_append, HT.out.2.2]
          omega
      · rw [blank_stop hE h0 hd] at h1 h2
        have HR : Aside0 (bStr acc = bStr (blk x).1 ∧ ∀ w2, Sty w g (nxt y) w2 → Sty w g (blk x).2 w2) := ⟨by rw [← h1, List.append_nil], fun w2 h => by rw [← h2]; exact h⟩
        have HSt := Aside0.mk hS
        obtain ⟨q, hq⟩ : ∃ q, q = dr y 4 := ⟨_, rfl⟩
        rw [← hq] at HN hd
        have eq : ((q : Int) == 0) = false := by rw [beq_eq_false_iff_ne]; omega
        obtain ⟨t, ht⟩ : ∃ t, t = bStr acc := ⟨_, rfl⟩
        rw [← ht] at HR ⊢
        clear hS hE h1 h2 hl hd ht hq hy h0
        go_wp2_with fail
        refine HN.out.mono ?_
        rintro e w1 ⟨rfl, hS1⟩
        have HS1 := Aside0.mk (HR.out.2 _ (HSt.out.trans hS1))
        clear hS1 c0
        go_wp2
        go_ret
        exact ⟨by rw [← HR.out.1]; rfl, HS1.out⟩
end Go.Proofs.YtgldcjmdjhghpaaGreatDoor
