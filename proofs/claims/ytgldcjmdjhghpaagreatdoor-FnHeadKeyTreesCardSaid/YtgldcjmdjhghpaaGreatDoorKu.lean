/-
  laws.zzFits11; spec.headSize: their contracts. Printed by kugen.py.
-/
import Derived.Test.YtgldcjmdjhghpaaGreatDoorKt
import Derived.Test.YtgldcjmdjhghpaaGreatDoorFz
namespace Go.Proofs.YtgldcjmdjhghpaaGreatDoor
open Go.RowKit Go.Proofs.YtgldcjmdjhghpaaGreatDoorW.PrintWords Go.ChangeShapes Go.WideShapes
set_option linter.unusedVariables false
set_option linter.unusedSimpArgs false
set_option maxRecDepth 100000
theorem strTakeK {w : World} {B : Option Addr} {xs : List ByteArray} (h : Kd.string.C w B xs.length xs) (k : Nat) (hk : k ≤ xs.length) : Kd.string.C w B k (xs.take k) := by
  have := Kd.C_take h hk
  rwa [List.length_take, Nat.min_eq_left hk] at this
theorem strOneK (w : World) (s : ByteArray) : Kd.string.C (w.alloc (.cells #[.string s] 9)) (some ⟨w.heap.size, 0, none⟩) 1 [s] := C1_lit w 9 _ rfl [s] (by unfold maxLen; simp)
/-- A node that lies in a block by itself. -/
structure BoxT (w : World) (b : Nat) (kd : Int) (is mi : Bool) (nu : Int) (tx : ByteArray) (v5 v6 : Value) : Prop where
  c0 : w.cell? ⟨b, 0, none⟩ = some (.int .u8 kd)
  c1 : w.cell? ⟨b, 1, none⟩ = some (.bool is)
  c2 : w.cell? ⟨b, 2, none⟩ = some (.bool mi)
  c3 : w.cell? ⟨b, 3, none⟩ = some (.int .u64 nu)
  c4 : w.cell? ⟨b, 4, none⟩ = some (.string tx)
  c5 : w.cell? ⟨b, 5, none⟩ = some v5
  c6 : w.cell? ⟨b, 6, none⟩ = some v6
theorem BoxT.new (w : World) (kd : Int) (is mi : Bool) (nu : Int) (tx : ByteArray) (v5 v6 : Value) : BoxT (w.alloc (.cells #[.int .u8 kd, .bool is, .bool mi, .int .u64 nu, .string tx, v5, v6] 26)) w.heap.size kd is mi nu tx v5 v6 := by
  constructor <;> (rw [World.cell?_alloc_new]; rfl)
theorem BoxT.on {w w1 : World} {b : Nat} {kd : Int} {is mi : Bool} {nu : Int} {tx : ByteArray} {v5 v6 : Value} (h : BoxT w b kd is mi nu tx v5 v6) (hb : Below w.heap.size w w1) : BoxT w1 b kd is mi nu tx v5 v6 :=
  ⟨(hb.cell (cell_lt h.c0)).trans h.c0, (hb.cell (cell_lt h.c1)).trans h.c1, (hb.cell (cell_lt h.c2)).trans h.c2, (hb.cell (cell_lt h.c3)).trans h.c3, (hb.cell (cell_lt h.c4)).trans h.c4, (hb.cell (cell_lt h.c5)).trans h.c5, (hb.cell (cell_lt h.c6)).trans h.c6⟩
def RetB (e : Ending) : Prop := ∃ b : Bool, e = .returned (.bool b)
set_option maxHeartbeats 2000000 in
theorem zf11_any (w : World) {k : Nat} (x : TrN k) (A : Option Addr) (c : Nat) (B : Option Addr) (m d : Nat) (h : TrAt w x A c B m d) :
    Calls Tryz.prog 4 #[.agg (trCells x A c B m d)] w fun e w' => RetB e ∧ Below w.heap.size w w' := by
  have hu := Tryz.underlying26
  obtain ⟨kd, is, mi, nu, tx, ns, ks⟩ := x
  obtain ⟨hC, hle, _⟩ := h
  obtain ⟨W, hW⟩ : ∃ W, W = w.alloc (.cells #[.int .u8 kd, .bool is, .bool mi, .int .u64 nu, .string tx, .slice A ns.length c, .slice B m d] 26) := ⟨_, rfl⟩
  have hB := BoxT.new w kd is mi nu tx (.slice A ns.length c) (.slice B m d)
  rw [← hW] at hB
  have HW := Aside0.mk hW
  have HB0 : Aside0 (Below w.heap.size w W) := ⟨by rw [hW]; exact (Below.refl _ _).alloc (Nat.le_refl _) _⟩
  have HC := Aside0.mk (Kd.C_below hC HB0.out)
  obtain ⟨k0, k1, k2, k3, k4, k5, k6⟩ := hB
  clear hC hW
  unfold trCells
  by_cases h1 : 2147483647 < tx.size
  · go_enter Tryz.func4, Tryz.ntmps4
    go_wp2_with fail
    go_ret
    exact ⟨⟨_, rfl⟩, HW.out ▸ HB0.out⟩
  replace h1 : tx.size ≤ 2147483647 := by omega
  go_enter Tryz.func4, Tryz.ntmps4
  go_wp2_with fail
  rw [← HW.out]
  refine (fits2_any _ A _ c _ HC.out).mono ?_
  rintro e w1 ⟨rfl, rfl⟩
  cases hb : fitsTwo ns with
  | true =>
    clear hb
    by_cases h2 : 2147483647 < m
    · go_wp2
      go_ret
      exact ⟨⟨_, rfl⟩, HB0.out⟩
    · replace h2 : m ≤ 2147483647 := by omega
      go_wp2
      go_ret
      exact ⟨⟨_, rfl⟩, HB0.out⟩
  | false =>
    clear hb
    go_wp2
    go_ret
    exact ⟨⟨_, rfl⟩, HB0.out⟩
end Go.Proofs.YtgldcjmdjhghpaaGreatDoor
