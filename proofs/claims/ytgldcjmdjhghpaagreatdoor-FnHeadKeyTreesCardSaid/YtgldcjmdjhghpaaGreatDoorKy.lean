/-
  spec's headStyle.tree at a node without kids: its contract.
-/
import Derived.Test.YtgldcjmdjhghpaaGreatDoorKr
namespace Go.Proofs.YtgldcjmdjhghpaaGreatDoor
open Go.RowKit Go.Proofs.YtgldcjmdjhghpaaGreatDoorW.PrintWords Go.ChangeShapes Go.WideShapes
set_option linter.unusedVariables false
set_option linter.unusedSimpArgs false
set_option maxRecDepth 100000
theorem leaf_call (w : World) (g y : Nat) (kd : Int) (is mi : Bool) (nu : Int) (tx : ByteArray) (h : StyAt w g y) (hy : y < 18446744073709551616) (h0 : 0 ≤ kd) (h4 : kd < 4) (hn : 0 ≤ nu ∧ nu < 18446744073709551616) (h3 : kd = 3 → TOk tx) :
    Calls Tryz.prog 29 #[.pointer (some ⟨g, 0, none⟩), .agg #[.string ByteArray.empty, .int .u8 kd, .bool is, .bool mi, .int .u64 nu, .string tx, .slice none 0 0]] w fun e w' => e = .returned (.string (bStr (valF (leafF kd is mi nu tx) y).1)) ∧ Sty w g (valF (leafF kd is mi nu tx) y).2 w' := by
  obtain ⟨n, rfl⟩ := Int.eq_ofNat_of_zero_le hn.1
  rcases (show kd = 0 ∨ kd = 1 ∨ kd = 2 ∨ kd = 3 by omega) with rfl | rfl | rfl | rfl
  · exact value0_any w g y _ is mi _ tx _ h hy
  · exact value1_any w g y _ is mi _ tx _ h hy
  · have := value2_any w g y ByteArray.empty is mi (n : Int) tx (.slice none 0 0) h hy n rfl (by omega)
    have e : valF (leafF 2 is mi (n : Int) tx) y = ((if (mi && decide (0 < n)) = true then [45] else []) ++ digF n, y) := by
      unfold valF leafF
      simp only [Int.toNat_natCast]
      have hd : decide ((0 : Int) < (n : Int)) = decide (0 < n) := by congr 1; exact propext ⟨fun h => by omega, fun h => by omega⟩
      rw [if_neg (by decide), if_neg (by decide)]
      simp only [if_true, hd]
    rw [e]
    exact this
  · exact value3_any w g y _ is mi _ tx _ h hy (h3 rfl)
theorem BoxT.sty {w w1 : World} {g x b : Nat} {kd : Int} {is mi : Bool} {nu : Int} {tx : ByteArray} {v5 v6 : Value} (h : BoxT w b kd is mi nu tx v5 v6) (hs : Sty w g x w1) (hg : b ≠ g) : BoxT w1 b kd is mi nu tx v5 v6 :=
  ⟨hs.cell (cell_lt h.c0) hg h.c0, hs.cell (cell_lt h.c1) hg h.c1, hs.cell (cell_lt h.c2) hg h.c2, hs.cell (cell_lt h.c3) hg h.c3, hs.cell (cell_lt h.c4) hg h.c4, hs.cell (cell_lt h.c5) hg h.c5, hs.cell (cell_lt h.c6) hg h.c6⟩
set_option maxHeartbeats 4000000 in
theorem tree_leaf (w : World) (g y : Nat) (kd : Int) (is mi : Bool) (nu : Int) (tx : ByteArray) (v5 v6 : Value) (h : StyAt w g y) (hy : y < 18446744073709551616) (h0 : 0 ≤ kd) (h4 : kd < 4) (hn : 0 ≤ nu ∧ nu < 18446744073709551616) (h3 : kd = 3 → TOk tx) :
    Calls Tryz.prog 18 #[.pointer (some ⟨g, 0, none⟩), .agg #[.int .u8 kd, .bool is, .bool mi, .int .u64 nu, .string tx, v5, v6]] w fun e w' => e = .returned (.string (bStr (valF (leafF kd is mi nu tx) y).1)) ∧ Sty w g (valF (leafF kd is mi nu tx) y).2 w' := by
  have hu := Tryz.underlying26
  have hu2 := Tryz.underlying72
  obtain ⟨W, hW⟩ : ∃ W, W = w.alloc (.cells #[.int .u8 kd, .bool is, .bool mi, .int .u64 nu, .string tx, v5, v6] 26) := ⟨_, rfl⟩
  have hB := BoxT.new w kd is mi nu tx v5 v6
  rw [← hW] at hB
  have HW := Aside0.mk hW
  have HB0 : Aside0 (Below w.heap.size w W) := ⟨by rw [hW]; exact (Below.refl _ _).alloc (Nat.le_refl _) _⟩
  have HV := Aside0.mk (leaf_call W g y kd is mi nu tx (h.on HB0.out) hy h0 h4 hn h3)
  obtain ⟨b, hb⟩ : ∃ b, b = w.heap.size := ⟨_, rfl⟩
  rw [← hb] at hB
  have Hb := Aside0.mk hb
  obtain ⟨q0, q1, q2, q3, q4, q5, q6⟩ := hB
  obtain ⟨t, ht⟩ : ∃ t, t = valF (leafF kd is mi nu tx) y := ⟨_, rfl⟩
  rw [← ht] at HV ⊢
  obtain ⟨s, hs⟩ : ∃ s, s = bStr t.1 := ⟨_, rfl⟩
  rw [← hs] at HV ⊢
  clear hW hb h hs ht hn h3
  go_enter Tryz.func18, Tryz.ntmps18
  go_wp2_with fail
  rw [← HW.out]
  refine HV.out.mono ?_
  rintro e w1 ⟨rfl, hS⟩
  have HS := Aside0.mk (Sty.pre HB0.out hS)
  clear hS
  go_wp2
  go_ret
  exact ⟨rfl, HS.out⟩
end Go.Proofs.YtgldcjmdjhghpaaGreatDoor
