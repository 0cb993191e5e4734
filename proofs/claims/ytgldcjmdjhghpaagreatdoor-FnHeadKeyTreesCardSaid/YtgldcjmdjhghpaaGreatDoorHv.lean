/-
  spec's headStyle.value: its contract. Printed by valuegen.py.
-/
import Derived.Test.YtgldcjmdjhghpaaGreatDoorHd
namespace Go.Proofs.YtgldcjmdjhghpaaGreatDoor
open Go.RowKit Go.Proofs.YtgldcjmdjhghpaaGreatDoorW.PrintWords Go.ChangeShapes Go.WideShapes
set_option linter.unusedVariables false
set_option linter.unusedSimpArgs false
set_option maxRecDepth 100000
theorem Sty.cell {w w1 : World} {g x b o : Nat} {v : Value} (h : Sty w g x w1) (hb : b < w.heap.size) (hg : b ≠ g) (hc : w.cell? ⟨b, o, none⟩ = some v) : w1.cell? ⟨b, o, none⟩ = some v :=
  (h.2.cell b o hb (fun hh => hg hh.1)).trans hc
theorem Sty.pre {w w1 w2 : World} {g x : Nat} (hb : Below w.heap.size w w1) (h : Sty w1 g x w2) : Sty w g x w2 := ⟨h.1, (Upd.of_below hb (fun _ _ => False)).trans h.2 (fun _ _ _ h => h.elim) (fun _ _ _ h => h)⟩
/-- A field's cells in a block of their own. -/
structure BoxIs (w : World) (b : Nat) (nm : ByteArray) (kd : Int) (is mi : Bool) (nu : Int) (tx : ByteArray) (v : Value) : Prop where
  lt : b < w.heap.size
  c0 : w.cell? ⟨b, 0, none⟩ = some (.string nm)
  c1 : w.cell? ⟨b, 1, none⟩ = some (.int .u8 kd)
  c2 : w.cell? ⟨b, 2, none⟩ = some (.bool is)
  c3 : w.cell? ⟨b, 3, none⟩ = some (.bool mi)
  c4 : w.cell? ⟨b, 4, none⟩ = some (.int .u64 nu)
  c5 : w.cell? ⟨b, 5, none⟩ = some (.string tx)
  c6 : w.cell? ⟨b, 6, none⟩ = some v
theorem BoxIs.new (w : World) (nm : ByteArray) (kd : Int) (is mi : Bool) (nu : Int) (tx : ByteArray) (v : Value) : BoxIs (w.alloc (.cells #[.string nm, .int .u8 kd, .bool is, .bool mi, .int .u64 nu, .string tx, v] 72)) w.heap.size nm kd is mi nu tx v :=
  ⟨by simp, by rw [World.cell?_alloc_new]; rfl, by rw [World.cell?_alloc_new]; rfl, by rw [World.cell?_alloc_new]; rfl, by rw [World.cell?_alloc_new]; rfl, by rw [World.cell?_alloc_new]; rfl, by rw [World.cell?_alloc_new]; rfl, by rw [World.cell?_alloc_new]; rfl⟩
theorem BoxIs.sty {w w1 : World} {g x b : Nat} {nm : ByteArray} {kd : Int} {is mi : Bool} {nu : Int} {tx : ByteArray} {v : Value} (h : BoxIs w b nm kd is mi nu tx v) (hs : Sty w g x w1) (hg : b ≠ g) : BoxIs w1 b nm kd is mi nu tx v :=
  ⟨Nat.lt_of_lt_of_le h.lt hs.2.size, hs.cell h.lt hg h.c0, hs.cell h.lt hg h.c1, hs.cell h.lt hg h.c2, hs.cell h.lt hg h.c3, hs.cell h.lt hg h.c4, hs.cell h.lt hg h.c5, hs.cell h.lt hg h.c6⟩
theorem BoxIs.on {w w1 : World} {b : Nat} {nm : ByteArray} {kd : Int} {is mi : Bool} {nu : Int} {tx : ByteArray} {v : Value} (h : BoxIs w b nm kd is mi nu tx v) (hb : Below w.heap.size w w1) : BoxIs w1 b nm kd is mi nu tx v :=
  ⟨Nat.lt_of_lt_of_le h.lt hb.size, (hb.cell (p := ⟨b, 0, none⟩) h.lt).trans h.c0, (hb.cell (p := ⟨b, 1, none⟩) h.lt).trans h.c1, (hb.cell (p := ⟨b, 2, none⟩) h.lt).trans h.c2, (hb.cell (p := ⟨b, 3, none⟩) h.lt).trans h.c3, (hb.cell (p := ⟨b, 4, none⟩) h.lt).trans h.c4, (hb.cell (p := ⟨b, 5, none⟩) h.lt).trans h.c5, (hb.cell (p := ⟨b, 6, none⟩) h.lt).trans h.c6⟩
set_option maxHeartbeats 4000000 in
theorem value0_any (w : World) (g x : Nat) (nm : ByteArray) (is mi : Bool) (nu : Int) (tx : ByteArray) (v : Value) (h : StyAt w g x) (hx : x < 18446744073709551616) :
    Calls Tryz.prog 29 #[.pointer (some ⟨g, 0, none⟩), .agg #[.string nm, .int .u8 0, .bool is, .bool mi, .int .u64 nu, .string tx, v]] w fun e w' => e = .returned (.string (bStr wNULL)) ∧ Sty w g x w' := by
  have hB := BoxIs.new w nm 0 is mi nu tx v
  have hSt := h.on ((Below.refl w.heap.size w).alloc (Nat.le_refl _) (.cells #[.string nm, .int .u8 0, .bool is, .bool mi, .int .u64 nu, .string tx, v] 72))
  have hb0 : Below w.heap.size w (w.alloc (.cells #[.string nm, .int .u8 0, .bool is, .bool mi, .int .u64 nu, .string tx, v] 72)) := (Below.refl _ _).alloc (Nat.le_refl _) _
  have hbg : w.heap.size ≠ g := by have := blkT_lt h.ty; omega
  have hu := Tryz.underlying72
  have HS : Aside0 (Sty w g x (w.alloc (.cells #[.string nm, .int .u8 0, .bool is, .bool mi, .int .u64 nu, .string tx, v] 72))) := ⟨(Sty.refl h).on hb0⟩
  clear hSt hb0 h hx hB hbg
  go_enter Tryz.func29, Tryz.ntmps29
  go_wp2
  go_ret
  exact ⟨rfl, HS.out⟩
set_option maxHeartbeats 4000000 in
theorem value1_any (w : World) (g x : Nat) (nm : ByteArray) (is mi : Bool) (nu : Int) (tx : ByteArray) (v : Value) (h : StyAt w g x) (hx : x < 18446744073709551616) :
    Calls Tryz.prog 29 #[.pointer (some ⟨g, 0, none⟩), .agg #[.string nm, .int .u8 1, .bool is, .bool mi, .int .u64 nu, .string tx, v]] w fun e w' => e = .returned (.string (bStr (if is then wTRUE else wFALSE))) ∧ Sty w g x w' := by
  have hB := BoxIs.new w nm 1 is mi nu tx v
  have hSt := h.on ((Below.refl w.heap.size w).alloc (Nat.le_refl _) (.cells #[.string nm, .int .u8 1, .bool is, .bool mi, .int .u64 nu, .string tx, v] 72))
  have hb0 : Below w.heap.size w (w.alloc (.cells #[.string nm, .int .u8 1, .bool is, .bool mi, .int .u64 nu, .string tx, v] 72)) := (Below.refl _ _).alloc (Nat.le_refl _) _
  have hbg : w.heap.size ≠ g := by have := blkT_lt h.ty; omega
  have hu := Tryz.underlying72
  have HS : Aside0 (Sty w g x (w.alloc (.cells #[.string nm, .int .u8 1, .bool is, .bool mi, .int .u64 nu, .string tx, v] 72))) := ⟨(Sty.refl h).on hb0⟩
  clear hSt hb0 h hx hB hbg
  cases is
  all_goals
    go_enter Tryz.func29, Tryz.ntmps29
    go_wp2
    go_ret
    exact ⟨rfl, HS.out⟩
set_option maxHeartbeats 4000000 in
theorem value2_any (w : World) (g x : Nat) (nm : ByteArray) (is mi : Bool) (nu : Int) (tx : ByteArray) (v : Value) (h : StyAt w g x) (hx : x < 18446744073709551616) (n : Nat) (hn : nu = (n : Int)) (hn2 : n < 18446744073709551616) :
    Calls Tryz.prog 29 #[.pointer (some ⟨g, 0, none⟩), .agg #[.string nm, .int .u8 2, .bool is, .bool mi, .int .u64 nu, .string tx, v]] w fun e w' => e = .returned (.string (bStr ((if (mi && decide (0 < n)) = true then [45] else []) ++ digF n))) ∧ Sty w g x w' := by
  have hB := BoxIs.new w nm 2 is mi nu tx v
  have hSt := h.on ((Below.refl w.heap.size w).alloc (Nat.le_refl _) (.cells #[.string nm, .int .u8 2, .bool is, .bool mi, .int .u64 nu, .string tx, v] 72))
  have hb0 : Below w.heap.size w (w.alloc (.cells #[.string nm, .int .u8 2, .bool is, .bool mi, .int .u64 nu, .string tx, v] 72)) := (Below.refl _ _).alloc (Nat.le_refl _) _
  have hbg : w.heap.size ≠ g := by have := blkT_lt h.ty; omega
  have hu := Tryz.underlying72
  subst hn
  have HS : Aside0 (Sty w g x (w.alloc (.cells #[.string nm, .int .u8 2, .bool is, .bool mi, .int .u64 (n : Int), .string tx, v] 72))) := ⟨(Sty.refl h).on hb0⟩
  have HD := Aside0.mk (fun w => headDigits_any n w hn2)
  obtain ⟨u, hu2⟩ : ∃ u, u = bStr (digF n) := ⟨_, rfl⟩
  have hus : u.size ≤ 20 := by rw [hu2, bStr_size]; exact digF_len n
  rw [← hu2] at HD
  have HU := Aside0.mk hu2
  have n0 : (0 : Int) ≤ (n : Int) := by omega
  clear hSt hb0 h hx hB hbg hu2
  cases mi with
  | false =>
    go_enter Tryz.func29, Tryz.ntmps29
    go_wp2_with fail
    refine (HD.out _).mono ?_
    rintro e w1 ⟨rfl, rfl⟩
    go_wp2
    go_ret
    exact ⟨by rw [HU.out]; rfl, HS.out⟩
  | true =>
    by_cases h0 : 0 < n
    · have d0 : 0 < n := h0
      have HR : Aside0 (bStr ((if (true && decide (0 < n)) = true then [45] else []) ++ digF n) = (⟨#[45]⟩ : ByteArray) ++ u) := ⟨by rw [decide_eq_true h0, HU.out]; exact (bStr_app [45] _).symm⟩
      rw [HR.out]
      clear h0
      go_enter Tryz.func29, Tryz.ntmps29
      go_wp2_with fail
      refine (HD.out _).mono ?_
      rintro e w1 ⟨rfl, rfl⟩
      go_wp2
      go_ret
      exact ⟨rfl, HS.out⟩
    · have d0 : ¬ 0 < n := h0
      have HR : Aside0 (bStr ((if (true && decide (0 < n)) = true then [45] else []) ++ digF n) = u) := ⟨by rw [decide_eq_false h0, HU.out]; rfl⟩
      rw [HR.out]
      clear h0
      go_enter Tryz.func29, Tryz.ntmps29
      go_wp2_with fail
      refine (HD.out _).mono ?_
      rintro e w1 ⟨rfl, rfl⟩
      go_wp2
      go_ret
      exact ⟨rfl, HS.out⟩
set_option maxHeartbeats 4000000 in
theorem value3_any (w : World) (g x : Nat) (nm : ByteArray) (is mi : Bool) (nu : Int) (tx : ByteArray) (v : Value) (h : StyAt w g x) (hx : x < 18446744073709551616) (ht : TOk tx) :
    Calls Tryz.prog 29 #[.pointer (some ⟨g, 0, none⟩), .agg #[.string nm, .int .u8 3, .bool is, .bool mi, .int .u64 nu, .string tx, v]] w fun e w' => e = .returned (.string (bStr (quoF tx x).1)) ∧ Sty w g (quoF tx x).2 w' := by
  have hB := BoxIs.new w nm 3 is mi nu tx v
  have hSt := h.on ((Below.refl w.heap.size w).alloc (Nat.le_refl _) (.cells #[.string nm, .int .u8 3, .bool is, .bool mi, .int .u64 nu, .string tx, v] 72))
  have hb0 : Below w.heap.size w (w.alloc (.cells #[.string nm, .int .u8 3, .bool is, .bool mi, .int .u64 nu, .string tx, v] 72)) := (Below.refl _ _).alloc (Nat.le_refl _) _
  have hbg : w.heap.size ≠ g := by have := blkT_lt h.ty; omega
  have hu := Tryz.underlying72
  have HQ := Aside0.mk (quote_any _ g x tx ht hSt hx)
  have HB0 := Aside0.mk hb0
  obtain ⟨c0, c1, c2, c3, c4, c5⟩ := And.intro hB.c0 (And.intro hB.c1 (And.intro hB.c2 (And.intro hB.c3 (And.intro hB.c4 hB.c5))))
  clear hSt hb0 h hx hB hbg ht
  go_enter Tryz.func29, Tryz.ntmps29
  go_wp2_with fail
  refine HQ.out.mono ?_
  rintro e w1 ⟨rfl, hS⟩
  have HS := Aside0.mk hS
  clear hS c0 c1 c2 c3 c4 c5
  go_wp2
  go_ret
  exact ⟨rfl, Sty.pre HB0.out HS.out⟩
def val5Val (g b : Nat) (tx s1 s2 s3 s4 s5 a42 a47 a50 a51 a54 a55 a58 a59 : ByteArray) (d : Nat) : Value :=
  match d with
  | 40 => .pointer (some ⟨g, 0, none⟩)
  | 41 => .string s1
  | 42 => .string a42
  | 43 => .pointer (some ⟨g, 0, none⟩)
  | 44 => .pointer (some ⟨b, 5, none⟩)
  | 45 => .string tx
  | 46 => .string s2
  | 47 => .string a47
  | 48 => .pointer (some ⟨g, 0, none⟩)
  | 49 => .string s3
  | 50 => .string a50
  | 51 => .string a51
  | 52 => .pointer (some ⟨g, 0, none⟩)
  | 53 => .string s4
  | 54 => .string a54
  | 55 => .string a55
  | 56 => .pointer (some ⟨g, 0, none⟩)
  | 57 => .string s5
  | 58 => .string a58
  | 59 => .string a59
  | 4 => .string a59
  | _ => undef
def val5Rd (i : Nat) : List (Nat × Nat) :=
  match i with
  | _ => []
def val5Dp (i : Nat) : List (Nat × Nat) :=
  match i with
  | 1 => [(0, 40)]
  | 2 => [(1, 41)]
  | 5 => [(4, 44)]
  | 6 => [(3, 43), (5, 45)]
  | 7 => [(2, 42), (6, 46)]
  | 9 => [(8, 48)]
  | 10 => [(7, 47), (9, 49)]
  | 11 => [(10, 50)]
  | 13 => [(12, 52)]
  | 14 => [(11, 51), (13, 53)]
  | 15 => [(14, 54)]
  | 17 => [(16, 56)]
  | 18 => [(15, 55), (17, 57)]
  | 19 => [(18, 58)]
  | 20 => [(19, 59)]
  | _ => []
def val5X (x0 x1 x2 x3 x4 x5 : Nat) (k : Nat) : Nat := match k with | 0 => x0 | 1 => x1 | 2 => x2 | 3 => x3 | 4 => x4 | _ => x5
set_option maxHeartbeats 4000000 in
theorem value5_any (w : World) (g x : Nat) (nm : ByteArray) (is mi : Bool) (nu : Int) (tx : ByteArray) (v : Value) (h : StyAt w g x) (hx : x < 18446744073709551616) (ht : TOk tx) :
    Calls Tryz.prog 29 #[.pointer (some ⟨g, 0, none⟩), .agg #[.string nm, .int .u8 5, .bool is, .bool mi, .int .u64 nu, .string tx, v]] w fun e w' => e = .returned (.string (bStr (nestF tx x).1)) ∧ Sty w g (nestF tx x).2 w' := by
  have hB := BoxIs.new w nm 5 is mi nu tx v
  have hSt := h.on ((Below.refl w.heap.size w).alloc (Nat.le_refl _) (.cells #[.string nm, .int .u8 5, .bool is, .bool mi, .int .u64 nu, .string tx, v] 72))
  have hb0 : Below w.heap.size w (w.alloc (.cells #[.string nm, .int .u8 5, .bool is, .bool mi, .int .u64 nu, .string tx, v] 72)) := (Below.refl _ _).alloc (Nat.le_refl _) _
  have hbg : w.heap.size ≠ g := by have := blkT_lt h.ty; omega
  have hu := Tryz.underlying72
  obtain ⟨W, hW⟩ : ∃ W, W = w.alloc (.cells #[.string nm, .int .u8 5, .bool is, .bool mi, .int .u64 nu, .string tx, v] 72) := ⟨_, rfl⟩
  rw [← hW] at hB hSt hb0
  obtain ⟨b, hbb⟩ : ∃ b, b = w.heap.size := ⟨_, rfl⟩
  rw [← hbb] at hB hbg
  obtain ⟨x1, hx1⟩ : ∃ y, y = (blk x).2 := ⟨_, rfl⟩
  obtain ⟨x2, hx2⟩ : ∃ y, y = (quoF tx x1).2 := ⟨_, rfl⟩
  obtain ⟨x3, hx3⟩ : ∃ y, y = (blk x2).2 := ⟨_, rfl⟩
  obtain ⟨x4, hx4⟩ : ∃ y, y = (blk x3).2 := ⟨_, rfl⟩
  obtain ⟨x5, hx5⟩ : ∃ y, y = (blk x4).2 := ⟨_, rfl⟩
  have l1 : x1 < 18446744073709551616 := by rw [hx1]; exact blk_lt _ hx
  have l2 : x2 < 18446744073709551616 := by rw [hx2]; exact quoF_lt _ _ l1
  have l3 : x3 < 18446744073709551616 := by rw [hx3]; exact blk_lt _ l2
  have l4 : x4 < 18446744073709551616 := by rw [hx4]; exact blk_lt _ l3
  obtain ⟨s1, hs1⟩ : ∃ t, t = bStr (blk x).1 := ⟨_, rfl⟩
  obtain ⟨s2, hs2⟩ : ∃ t, t = bStr (quoF tx x1).1 := ⟨_, rfl⟩
  obtain ⟨s3, hs3⟩ : ∃ t, t = bStr (blk x2).1 := ⟨_, rfl⟩
  obtain ⟨s4, hs4⟩ : ∃ t, t = bStr (blk x3).1 := ⟨_, rfl⟩
  obtain ⟨s5, hs5⟩ : ∃ t, t = bStr (blk x4).1 := ⟨_, rfl⟩
  have HC : Aside0 ((∀ wc, Sty W g x wc → Calls Tryz.prog 17 #[.pointer (some ⟨g, 0, none⟩)] wc fun e w' => e = .returned (.string s1) ∧ Sty wc g x1 w') ∧
      (∀ wc, Sty W g x1 wc → Calls Tryz.prog 30 #[.pointer (some ⟨g, 0, none⟩), .string tx] wc fun e w' => e = .returned (.string s2) ∧ Sty wc g x2 w') ∧
      (∀ wc, Sty W g x2 wc → Calls Tryz.prog 17 #[.pointer (some ⟨g, 0, none⟩)] wc fun e w' => e = .returned (.string s3) ∧ Sty wc g x3 w') ∧
      (∀ wc, Sty W g x3 wc → Calls Tryz.prog 17 #[.pointer (some ⟨g, 0, none⟩)] wc fun e w' => e = .returned (.string s4) ∧ Sty wc g x4 w') ∧
      (∀ wc, Sty W g x4 wc → Calls Tryz.prog 17 #[.pointer (some ⟨g, 0, none⟩)] wc fun e w' => e = .returned (.string s5) ∧ Sty wc g x5 w')) :=
    ⟨fun wc hS => by rw [hs1, hx1]; exact blank_any wc g x hS.1 hx, fun wc hS => by rw [hs2, hx2]; exact quote_any wc g x1 tx ht hS.1 l1, fun wc hS => by rw [hs3, hx3]; exact blank_any wc g x2 hS.1 l2, fun wc hS => by rw [hs4, hx4]; exact blank_any wc g x3 hS.1 l3, fun wc hS => by rw [hs5, hx5]; exact blank_any wc g x4 hS.1 l4⟩
  have z1 : s1.size ≤ 65537 := by rw [hs1, bStr_size]; exact blk_len _
  have z2 : s2.size ≤ 2402 := by rw [hs2, bStr_size]; exact quoF_len ht _
  have z3 : s3.size ≤ 65537 := by rw [hs3, bStr_size]; exact blk_len _
  have z4 : s4.size ≤ 65537 := by rw [hs4, bStr_size]; exact blk_len _
  have z5 : s5.size ≤ 65537 := by rw [hs5, bStr_size]; exact blk_len _
  obtain ⟨a42, c42⟩ : ∃ t, (⟨#[123]⟩ : ByteArray) ++ s1 = t := ⟨_, rfl⟩
  obtain ⟨a47, c47⟩ : ∃ t, a42 ++ s2 = t := ⟨_, rfl⟩
  obtain ⟨a50, c50⟩ : ∃ t, a47 ++ s3 = t := ⟨_, rfl⟩
  obtain ⟨a51, c51⟩ : ∃ t, a50 ++ (⟨#[58]⟩ : ByteArray) = t := ⟨_, rfl⟩
  obtain ⟨a54, c54⟩ : ∃ t, a51 ++ s4 = t := ⟨_, rfl⟩
  obtain ⟨a55, c55⟩ : ∃ t, a54 ++ (⟨#[49]⟩ : ByteArray) = t := ⟨_, rfl⟩
  obtain ⟨a58, c58⟩ : ∃ t, a55 ++ s5 = t := ⟨_, rfl⟩
  obtain ⟨a59, c59⟩ : ∃ t, a58 ++ (⟨#[125]⟩ : ByteArray) = t := ⟨_, rfl⟩
  have one : ∀ k : UInt8, (⟨#[k]⟩ : ByteArray).size = 1 := fun _ => rfl
  have y42 : a42.size ≤ 100000 := by rw [← c42, ByteArray.size_append, one]; omega
  have y47 : a47.size ≤ 200000 := by rw [← c47, ByteArray.size_append]; omega
  have y50 : a50.size ≤ 300000 := by rw [← c50, ByteArray.size_append]; omega
  have y51 : a51.size ≤ 400000 := by rw [← c51, ByteArray.size_append, one]; omega
  have y54 : a54.size ≤ 500000 := by rw [← c54, ByteArray.size_append]; omega
  have y55 : a55.size ≤ 600000 := by rw [← c55, ByteArray.size_append, one]; omega
  have y58 : a58.size ≤ 700000 := by rw [← c58, ByteArray.size_append]; omega
  have HEnd : Aside0 (a59 = bStr (nestF tx x).1 ∧ x5 = (nestF tx x).2) := ⟨by
    constructor
    · rw [← c59, ← c58, ← c55, ← c54, ← c51, ← c50, ← c47, ← c42, hs1, hs2, hs3, hs4, hs5]
      show bStr [123] ++ _ ++ _ ++ _ ++ bStr [58] ++ _ ++ bStr [49] ++ _ ++ bStr [125] = _
      simp only [bStr_app]
      congr 1
      unfold nestF
      simp only [hx1, hx2, hx3, hx4, List.append_assoc, List.cons_append, List.nil_append]
    · unfold nestF
      simp only [hx1, hx2, hx3, hx4, hx5]⟩
  have HCl : Aside0 (∀ (wc : World) (y : Nat), Sty W g y wc → wc.cell? ⟨b, 5, none⟩ = some (.string tx)) := ⟨fun wc y hS => hS.cell hB.lt hbg hB.c5⟩
  have H0 : Aside0 (Sty W g x W.drew) := ⟨(Sty.refl hSt).on (Below.refl _ _).drew⟩
  have HB0 := Aside0.mk hb0
  obtain ⟨k0, k1, k2, k3, k4, k5⟩ := And.intro hB.c0 (And.intro hB.c1 (And.intro hB.c2 (And.intro hB.c3 (And.intro hB.c4 hB.c5))))
  have HW := Aside0.mk hW
  clear hSt hb0 h hx hB hbg ht hs1 hs2 hs3 hs4 hs5 hx1 hx2 hx3 hx4 hx5 l1 l2 l3 l4 one hW
  go_enter Tryz.func29, Tryz.ntmps29
  go_upto_region 15 with (fail)
  rw [← hbb, ← HW.out]
  clear k0 k1 k2 k3 k4 k5 hbb
  trace_state
  go_cut [4] from 40 to 59 (fun x4 wx => x4 = .string a59 ∧ Sty W g x5 wx)
  case first =>
    rename_i J K1 hJ hK1
    refine wp_region_any (by kernel_rfl) ?_
    change wpAny _ _ _ _ _ _ _ (World.drew _)
    refine region_chain _ _ [40, 41, 42, 43, 44, 45, 46, 47, 48, 49, 50, 51, 52, 53, 54, 55, 56, 57, 58, 59, 4] (val5Val g b tx s1 s2 s3 s4 s5 a42 a47 a50 a51 a54 a55 a58 a59) val5Dp val5Rd [1, 6, 9, 13, 17] (fun k wx => Sty W g (val5X x x1 x2 x3 x4 x5 k) wx) (by kernel_rfl) (by kernel_rfl) (by kernel_rfl) (by kernel_rfl) ?_ ?_ ?_
    case' refine_1 => exact H0.out
    refine StepsC.quiet (by decide) (fun k a wc hI hc hp hr K hK => ?_) ?_
    · -- slot 40
      have q0 : a.tmps[0]?.getD undef = .pointer (some ⟨g, 0, none⟩) := ev_get (hc 0 (by decide))
      have HI := Aside0.mk hI
      clear hp hc hr hI
      go_simp
      exact hK _ HI.out
    refine StepsC.call 0 rfl (fun a wc hI hc hp hr K hK => ?_) ?_
    · -- slot 41
      have q40 : a.tmps[40]?.getD undef = .pointer (some ⟨g, 0, none⟩) := ev_get (hp (0, 40) (by simp [val5Dp]))
      have HI := Aside0.mk hI
      clear hp hc hr hI
      go_simp
      refine (HC.out.1 _ HI.out).mono ?_
      rintro e w2 ⟨rfl, hS⟩
      exact hK _ (HI.out.trans hS)
    refine StepsC.quiet (by decide) (fun k a wc hI hc hp hr K hK => ?_) ?_
    · -- slot 42
      have q41 : a.tmps[41]?.getD undef = .string s1 := ev_get (hp (1, 41) (by simp [val5Dp]))
      have HI := Aside0.mk hI
      clear hp hc hr hI
      have hz : (9223372036854775807 < 1 + s1.size) = False := eq_false (by omega)
      go_simp
      exact hK _ HI.out
    refine StepsC.quiet (by decide) (fun k a wc hI hc hp hr K hK => ?_) ?_
    · -- slot 43
      have q0 : a.tmps[0]?.getD undef = .pointer (some ⟨g, 0, none⟩) := ev_get (hc 0 (by decide))
      have HI := Aside0.mk hI
      clear hp hc hr hI
      go_simp
      exact hK _ HI.out
    refine StepsC.quiet (by decide) (fun k a wc hI hc hp hr K hK => ?_) ?_
    · -- slot 44
      have q3 : a.tmps[3]?.getD undef = .pointer (some ⟨b, 0, none⟩) := ev_get (hc 3 (by decide))
      have HI := Aside0.mk hI
      clear hp hc hr hI
      go_simp
      exact hK _ HI.out
    refine StepsC.quiet (by decide) (fun k a wc hI hc hp hr K hK => ?_) ?_
    · -- slot 45
      have q44 : a.tmps[44]?.getD undef = .pointer (some ⟨b, 5, none⟩) := ev_get (hp (4, 44) (by simp [val5Dp]))
      have HI := Aside0.mk hI
      clear hp hc hr hI
      have hcell := HCl.out _ _ HI.out
      go_simp
      exact hK _ HI.out
    refine StepsC.call 1 rfl (fun a wc hI hc hp hr K hK => ?_) ?_
    · -- slot 46
      have q43 : a.tmps[43]?.getD undef = .pointer (some ⟨g, 0, none⟩) := ev_get (hp (3, 43) (by simp [val5Dp]))
      have q45 : a.tmps[45]?.getD undef = .string tx := ev_get (hp (5, 45) (by simp [val5Dp]))
      have HI := Aside0.mk hI
      clear hp hc hr hI
      go_simp
      refine (HC.out.2.1 _ HI.out).mono ?_
      rintro e w2 ⟨rfl, hS⟩
      exact hK _ (HI.out.trans hS)
    refine StepsC.quiet (by decide) (fun k a wc hI hc hp hr K hK => ?_) ?_
    · -- slot 47
      have q42 : a.tmps[42]?.getD undef = .string a42 := ev_get (hp (2, 42) (by simp [val5Dp]))
      have q46 : a.tmps[46]?.getD undef = .string s2 := ev_get (hp (6, 46) (by simp [val5Dp]))
      have HI := Aside0.mk hI
      clear hp hc hr hI
      have hz : (9223372036854775807 < a42.size + s2.size) = False := eq_false (by omega)
      go_simp
      exact hK _ HI.out
    refine StepsC.quiet (by decide) (fun k a wc hI hc hp hr K hK => ?_) ?_
    · -- slot 48
      have q0 : a.tmps[0]?.getD undef = .pointer (some ⟨g, 0, none⟩) := ev_get (hc 0 (by decide))
      have HI := Aside0.mk hI
      clear hp hc hr hI
      go_simp
      exact hK _ HI.out
    refine StepsC.call 2 rfl (fun a wc hI hc hp hr K hK => ?_) ?_
    · -- slot 49
      have q48 : a.tmps[48]?.getD undef = .pointer (some ⟨g, 0, none⟩) := ev_get (hp (8, 48) (by simp [val5Dp]))
      have HI := Aside0.mk hI
      clear hp hc hr hI
      go_simp
      refine (HC.out.2.2.1 _ HI.out).mono ?_
      rintro e w2 ⟨rfl, hS⟩
      exact hK _ (HI.out.trans hS)
    refine StepsC.quiet (by decide) (fun k a wc hI hc hp hr K hK => ?_) ?_
    · -- slot 50
      have q47 : a.tmps[47]?.getD undef = .string a47 := ev_get (hp (7, 47) (by simp [val5Dp]))
      have q49 : a.tmps[49]?.getD undef = .string s3 := ev_get (hp (9, 49) (by simp [val5Dp]))
      have HI := Aside0.mk hI
      clear hp hc hr hI
      have hz : (9223372036854775807 < a47.size + s3.size) = False := eq_false (by omega)
      go_simp
      exact hK _ HI.out
    refine StepsC.quiet (by decide) (fun k a wc hI hc hp hr K hK => ?_) ?_
    · -- slot 51
      have q50 : a.tmps[50]?.getD undef = .string a50 := ev_get (hp (10, 50) (by simp [val5Dp]))
      have HI := Aside0.mk hI
      clear hp hc hr hI
      have hz : (9223372036854775807 < a50.size + 1) = False := eq_false (by omega)
      go_simp
      exact hK _ HI.out
    refine StepsC.quiet (by decide) (fun k a wc hI hc hp hr K hK => ?_) ?_
    · -- slot 52
      have q0 : a.tmps[0]?.getD undef = .pointer (some ⟨g, 0, none⟩) := ev_get (hc 0 (by decide))
      have HI := Aside0.mk hI
      clear hp hc hr hI
      go_simp
      exact hK _ HI.out
    refine StepsC.call 3 rfl (fun a wc hI hc hp hr K hK => ?_) ?_
    · -- slot 53
      have q52 : a.tmps[52]?.getD undef = .pointer (some ⟨g, 0, none⟩) := ev_get (hp (12, 52) (by simp [val5Dp]))
      have HI := Aside0.mk hI
      clear hp hc hr hI
      go_simp
      refine (HC.out.2.2.2.1 _ HI.out).mono ?_
      rintro e w2 ⟨rfl, hS⟩
      exact hK _ (HI.out.trans hS)
    refine StepsC.quiet (by decide) (fun k a wc hI hc hp hr K hK => ?_) ?_
    · -- slot 54
      have q51 : a.tmps[51]?.getD undef = .string a51 := ev_get (hp (11, 51) (by simp [val5Dp]))
      have q53 : a.tmps[53]?.getD undef = .string s4 := ev_get (hp (13, 53) (by simp [val5Dp]))
      have HI := Aside0.mk hI
      clear hp hc hr hI
      have hz : (9223372036854775807 < a51.size + s4.size) = False := eq_false (by omega)
      go_simp
      exact hK _ HI.out
    refine StepsC.quiet (by decide) (fun k a wc hI hc hp hr K hK => ?_) ?_
    · -- slot 55
      have q54 : a.tmps[54]?.getD undef = .string a54 := ev_get (hp (14, 54) (by simp [val5Dp]))
      have HI := Aside0.mk hI
      clear hp hc hr hI
      have hz : (9223372036854775807 < a54.size + 1) = False := eq_false (by omega)
      go_simp
      exact hK _ HI.out
    refine StepsC.quiet (by decide) (fun k a wc hI hc hp hr K hK => ?_) ?_
    · -- slot 56
      have q0 : a.tmps[0]?.getD undef = .pointer (some ⟨g, 0, none⟩) := ev_get (hc 0 (by decide))
      have HI := Aside0.mk hI
      clear hp hc hr hI
      go_simp
      exact hK _ HI.out
    refine StepsC.call 4 rfl (fun a wc hI hc hp hr K hK => ?_) ?_
    · -- slot 57
      have q56 : a.tmps[56]?.getD undef = .pointer (some ⟨g, 0, none⟩) := ev_get (hp (16, 56) (by simp [val5Dp]))
      have HI := Aside0.mk hI
      clear hp hc hr hI
      go_simp
      refine (HC.out.2.2.2.2 _ HI.out).mono ?_
      rintro e w2 ⟨rfl, hS⟩
      exact hK _ (HI.out.trans hS)
    refine StepsC.quiet (by decide) (fun k a wc hI hc hp hr K hK => ?_) ?_
    · -- slot 58
      have q55 : a.tmps[55]?.getD undef = .string a55 := ev_get (hp (15, 55) (by simp [val5Dp]))
      have q57 : a.tmps[57]?.getD undef = .string s5 := ev_get (hp (17, 57) (by simp [val5Dp]))
      have HI := Aside0.mk hI
      clear hp hc hr hI
      have hz : (9223372036854775807 < a55.size + s5.size) = False := eq_false (by omega)
      go_simp
      exact hK _ HI.out
    refine StepsC.quiet (by decide) (fun k a wc hI hc hp hr K hK => ?_) ?_
    · -- slot 59
      have q58 : a.tmps[58]?.getD undef = .string a58 := ev_get (hp (18, 58) (by simp [val5Dp]))
      have HI := Aside0.mk hI
      clear hp hc hr hI
      have hz : (9223372036854775807 < a58.size + 1) = False := eq_false (by omega)
      go_simp
      exact hK _ HI.out
    refine StepsC.quiet (by decide) (fun k a wc hI hc hp hr K hK => ?_) ?_
    · -- slot 4
      have q59 : a.tmps[59]?.getD undef = .string a59 := ev_get (hp (19, 59) (by simp [val5Dp]))
      have HI := Aside0.mk hI
      clear hp hc hr hI
      go_simp
      exact hK _ HI.out
    exact StepsC.nil _
    · intro wz hI
      exact hK1 _ _ (Met.intro (hJ _ _ ⟨(.string a59), (.pointer (some ⟨g, 0, none⟩)), (.string s1), (.string a42), (.pointer (some ⟨g, 0, none⟩)), (.pointer (some ⟨b, 5, none⟩)), (.string tx), (.string s2), (.string a47), (.pointer (some ⟨g, 0, none⟩)), (.string s3), (.string a50), (.string a51), (.pointer (some ⟨g, 0, none⟩)), (.string s4), (.string a54), (.string a55), (.pointer (some ⟨g, 0, none⟩)), (.string s5), (.string a58), (.string a59), ⟨rfl, hI⟩, by kernel_rfl⟩))
  case rest =>
    obtain ⟨rfl, hS⟩ := hcut
    have HZ := Aside0.mk hS
    clear hS
    go_wp2
    go_ret
    exact ⟨by rw [← HEnd.out.1]; rfl, by rw [← HEnd.out.2]; exact Sty.pre HB0.out HZ.out⟩
theorem C_sty {w w1 : World} {g x n : Nat} {A : Option Addr} {xs : List ByteArray} (h : Kd.string.C w A n xs) (hS : Sty w g x w1) (hA : 0 < n → ∀ a, A = some a → a.block ≠ g) : Kd.string.C w1 A n xs := by
  refine ⟨h.1, h.2.1, fun hn => ?_⟩
  obtain ⟨ad, e, hc⟩ := h.2.2 hn
  refine ⟨ad, e, fun j p hj => ?_⟩
  obtain ⟨cs, h1, h2, h3⟩ := hc j p hj
  refine ⟨cs, h1, h2, fun i u hu => ?_⟩
  have h4 := h3 i u hu
  have hb : (ad.add (j * Kd.string.sz + i)).block = ad.block := by unfold Addr.add; split <;> rfl
  have hlt : ad.block < w.heap.size := by
    rw [← hb]
    cases hq : w.heap[(ad.add (j * Kd.string.sz + i)).block]? with
    | none => simp [World.cell?, hq] at h4
    | some o => exact (Array.getElem?_eq_some_iff.1 hq).1
  have he : w1.heap[(ad.add (j * Kd.string.sz + i)).block]? = w.heap[(ad.add (j * Kd.string.sz + i)).block]? := by
    rw [hb]
    exact hS.2.blk ad.block hlt (fun o hh => hA hn ad e hh.1)
  rw [← h4]
  simp only [World.cell?, he]
/-- Where the writing of a list stands. -/
def List4Rel (W : World) (g : Nat) (li : List ByteArray) (x : Nat) (s5 s66 : Value) (wr : World) : Prop :=
  ∃ (i y : Nat) (acc : Bs), s66 = .int .i64 (i : Int) ∧ i ≤ li.length ∧ s5 = .string (bStr acc) ∧ acc ++ ((seqF (itemF true) (decide (i = 0)) (li.drop i) y).1 ++ [93]) = (listF true li x).1 ∧ (seqF (itemF true) (decide (i = 0)) (li.drop i) y).2 = (listF true li x).2 ∧ y < 18446744073709551616 ∧ Sty W g y wr ∧ acc.length ≤ 70000 + 140000 * i
set_option maxHeartbeats 4000000 in
theorem value4_any (w : World) (g x : Nat) (nm : ByteArray) (is mi : Bool) (nu : Int) (tx : ByteArray) (A : Option Addr) (c : Nat) (li : List ByteArray) (h : StyAt w g x) (hx : x < 18446744073709551616) (hl : li.length ≤ 30) (hli : ∀ s ∈ li, TOk s) (hC : Kd.string.C w A li.length li) (hle : li.length ≤ c) (hA : 0 < li.length → ∀ a, A = some a → a.block ≠ g) :
    Calls Tryz.prog 29 #[.pointer (some ⟨g, 0, none⟩), .agg #[.string nm, .int .u8 4, .bool is, .bool mi, .int .u64 nu, .string tx, .slice A li.length c]] w fun e w' => e = .returned (.string (bStr (listF true li x).1)) ∧ Sty w g (listF true li x).2 w' := by
  have hB := BoxIs.new w nm 4 is mi nu tx (.slice A li.length c)
  have hSt := h.on ((Below.refl w.heap.size w).alloc (Nat.le_refl _) (.cells #[.string nm, .int .u8 4, .bool is, .bool mi, .int .u64 nu, .string tx, .slice A li.length c] 72))
  have hb0 : Below w.heap.size w (w.alloc (.cells #[.string nm, .int .u8 4, .bool is, .bool mi, .int .u64 nu, .string tx, .slice A li.length c] 72)) := (Below.refl _ _).alloc (Nat.le_refl _) _
  have hbg : w.heap.size ≠ g := by have := blkT_lt h.ty; omega
  have hu := Tryz.underlying72
  have hCW := Kd.C_below hC hb0
  obtain ⟨W, hW⟩ : ∃ W, W = w.alloc (.cells #[.string nm, .int .u8 4, .bool is, .bool mi, .int .u64 nu, .string tx, .slice A li.length c] 72) := ⟨_, rfl⟩
  rw [← hW] at hB hSt hb0 hCW
  obtain ⟨b, hbb⟩ : ∃ b, b = w.heap.size := ⟨_, rfl⟩
  rw [← hbb] at hB hbg
  have HW := Aside0.mk hW
  have HBl := Aside0.mk (blank_any W g x hSt hx)
  have HBl2 := Aside0.mk (fun (wz : World) (y : Nat) (hS : StyAt wz g y) (hy : y < 18446744073709551616) => blank_any wz g y hS hy)
  have HCW := Aside0.mk (And.intro hCW hA)
  have HLi := Aside0.mk hli
  have HBx := Aside0.mk (And.intro hB hbg)
  have HB0 := Aside0.mk hb0
  have HSt := Aside0.mk hSt
  have H0 : Aside0 (∀ wz, Sty W g (blk x).2 wz → List4Rel W g li x (.string ((⟨#[91]⟩ : ByteArray) ++ bStr (blk x).1)) (.int .i64 0) wz) := ⟨fun wz hS => ⟨0, (blk x).2, 91 :: (blk x).1, rfl, Nat.zero_le _, by
      show Value.string (bStr [91] ++ _) = _
      rw [bStr_app]
      rfl, by
      unfold listF
      simp only [decide_true, List.drop_zero, List.cons_append]
      , rfl, blk_lt _ hx, hS, by have := blk_len x; simp only [List.length_cons]; omega⟩⟩
  obtain ⟨k0, k1, k2, k3, k4, k5, k6⟩ := And.intro hB.c0 (And.intro hB.c1 (And.intro hB.c2 (And.intro hB.c3 (And.intro hB.c4 (And.intro hB.c5 hB.c6)))))
  obtain ⟨s1, hs1⟩ : ∃ t, t = bStr (blk x).1 := ⟨_, rfl⟩
  have z1 : s1.size ≤ 65537 := by rw [hs1, bStr_size]; exact blk_len _
  rw [← hs1] at HBl H0
  obtain ⟨n, hn⟩ : ∃ n, n = li.length := ⟨_, rfl⟩
  have hnl : n ≤ 30 := by omega
  have hnc : n ≤ c := by omega
  have HN := Aside0.mk hn
  clear hSt hb0 h hx hB hbg hC hCW hA hli hs1 hW hn hl hle
  go_enter Tryz.func29, Tryz.ntmps29
  go_upto_region 16 with (fail)
  rw [← hbb, ← HW.out]
  clear k0 hbb
  go_wp2_with fail
  refine HBl.out.mono ?_
  rintro e w1 ⟨rfl, hS1⟩
  have HS1 := Aside0.mk hS1
  have k6b := hS1.cell HBx.out.1.lt HBx.out.2 k6
  clear hS1 k1 k2 k3 k4 k5 k6
  rw [← HN.out] at k6b
  go_upto_region 18 with (fail)
  go_loopw [5, 66] (fun s5 s66 wr => List4Rel W g li x s5 s66 wr) (fun _ s66 _ => n - (intOf s66).toNat)
  case atStart => exact H0.out _ HS1.out
  case round =>
    clear H0 HBl k6b
    obtain ⟨i, y, acc, rfl, hi, rfl, h1, h2, hy, hS, hal⟩ := hrel
    rw [← HN.out] at hi
    by_cases hlt : i < n
    · have hli : i < li.length := by rw [← HN.out]; exact hlt
      obtain ⟨s, hs⟩ : ∃ s, s = li[i] := ⟨_, rfl⟩
      have hsok : TOk s := by rw [hs]; exact HLi.out _ (List.getElem_mem hli)
      obtain ⟨a1, rfl, ec⟩ := C1_get (C_sty HCW.out.1 hS HCW.out.2) i hli
      rw [← hs] at ec
      have hdrop : li.drop i = s :: li.drop (i + 1) := by rw [hs]; exact List.drop_eq_getElem_cons hli
      rw [hdrop] at h1 h2
      have k1 := hS.cell HBx.out.1.lt HBx.out.2 HBx.out.1.c1
      have HSy := Aside0.mk hS
      have HYl := Aside0.mk hy
      obtain ⟨tt, htt⟩ : ∃ t, t = bStr acc := ⟨_, rfl⟩
      have hts : tt.size ≤ 5000000 := by rw [htt, bStr_size]; omega
      rw [← htt]
      -- the comma
      obtain ⟨cm, hcm⟩ : ∃ cm : Bs × Nat, cm = if i = 0 then ([], y) else (44 :: (blk y).1, (blk y).2) := ⟨_, rfl⟩
      have hcl : cm.1.length ≤ 65538 := by
        rw [hcm]
        split
        · simp
        · have := blk_len y
          simp only [List.length_cons]
          omega
      have hy1 : cm.2 < 18446744073709551616 := by
        rw [hcm]
        split
        · exact hy
        · exact blk_lt _ hy
      have hseq : seqF (itemF true) (decide (i = 0)) (s :: li.drop (i + 1)) y = (cm.1 ++ ((itemF true s cm.2).1 ++ (seqF (itemF true) false (li.drop (i + 1)) (itemF true s cm.2).2).1), (seqF (itemF true) false (li.drop (i + 1)) (itemF true s cm.2).2).2) := by
        rw [hcm]
        by_cases h0 : i = 0
        · rw [decide_eq_true h0, if_pos h0]; rfl
        · rw [decide_eq_false h0, if_neg h0]; rfl
      rw [hseq] at h1 h2
      obtain ⟨c1, y1⟩ := cm
      simp only at h1 h2 hcl hy1
      obtain ⟨T, hT⟩ : ∃ t, t = tt ++ bStr c1 := ⟨_, rfl⟩
      have hTs : T.size ≤ 5100000 := by rw [hT, ByteArray.size_append, bStr_size]; omega
      have HQ : ∀ (wz : World), Sty W g y1 wz → Calls Tryz.prog 30 #[.pointer (some ⟨g, 0, none⟩), .string s] wz fun e w' => e = .returned (.string (bStr (quoF s y1).1)) ∧ Sty wz g (quoF s y1).2 w' := fun wz hS => quote_any wz g y1 s hsok hS.1 hy1
      have hz2 : (quoF s y1).1.length ≤ 2402 := quoF_len hsok y1
      obtain ⟨y2, hy2⟩ : ∃ y, y = (quoF s y1).2 := ⟨_, rfl⟩
      have ly2 : y2 < 18446744073709551616 := by rw [hy2]; exact quoF_lt _ _ hy1
      have hit : (itemF true s y1) = ((quoF s y1).1 ++ (blk y2).1, (blk y2).2) := by rw [hy2]; rfl
      rw [← hy2] at HQ
      replace HQ := Aside0.mk HQ
      obtain ⟨q, hq⟩ : ∃ q, q = (quoF s y1).1 := ⟨_, rfl⟩
      have hql : q.length ≤ 2402 := by rw [hq]; exact hz2
      rw [← hq] at HQ hit
      rw [hit] at h1 h2
      have hbl := blk_len y2
      have HNew : Aside0 (∀ wz, Sty W g (blk y2).2 wz → List4Rel W g li x (.string (T ++ bStr q ++ bStr (blk y2).1)) (.int .i64 ((i + 1 : Nat) : Int)) wz) := ⟨fun wz hS3 => ⟨i + 1, (blk y2).2, acc ++ (c1 ++ (q ++ (blk y2).1)), rfl, hli, by rw [hT, htt]; simp only [bStr_app, List.append_assoc], by
          rw [← h1, decide_eq_false (by omega : ¬ i + 1 = 0)]
          simp only [List.append_assoc], by
          rw [← h2, decide_eq_false (by omega : ¬ i + 1 = 0)], blk_lt _ ly2, hS3, by
          simp only [List.length_append]
          omega⟩⟩
      obtain ⟨sq, hsq⟩ : ∃ t, t = bStr q := ⟨_, rfl⟩
      have zq : sq.size ≤ 2402 := by rw [hsq, bStr_size]; exact hql
      obtain ⟨sb, hsb⟩ : ∃ t, t = bStr (blk y2).1 := ⟨_, rfl⟩
      have zb : sb.size ≤ 65537 := by rw [hsb, bStr_size]; exact hbl
      have hTq : (T ++ sq).size ≤ 5200000 := by rw [ByteArray.size_append]; omega
      have HB3 := Aside0.mk (fun (wz : World) (hS : Sty W g y2 wz) => HBl2.out wz y2 hS.1 ly2)
      rw [← hsq] at HQ HNew
      rw [← hsb] at HB3 HNew
      have HCm : Aside0 (∀ (wz : World), (i = 0 → c1 = [] ∧ y1 = y) ∧ (i ≠ 0 → c1 = 44 :: (blk y).1 ∧ y1 = (blk y).2)) := ⟨fun _ => by
        by_cases h0 : i = 0
        · rw [if_pos h0] at hcm
          injection hcm with e1 e2
          exact ⟨fun _ => ⟨e1, e2⟩, fun hh => absurd h0 hh⟩
        · rw [if_neg h0] at hcm
          injection hcm with e1 e2
          exact ⟨fun hh => absurd hh h0, fun _ => ⟨e1, e2⟩⟩⟩
      have HTT := Aside0.mk hT
      have hy1b := Aside0.mk hy1
      have hsz := hsok.len
      clear h1 h2 hy hS hal hi hs hdrop hcm hseq htt hcl hT hit hz2 hy2 hq hql hbl hsq hsb ly2 hli HN hsok hy1
      go_upto_if 72 with (fail)
      go_cut [5] from 71 to 77 (fun x5 wx => x5 = .string T ∧ Sty W g y1 wx)
      case first =>
        by_cases h0 : i = 0
        · subst h0
          obtain ⟨rfl, rfl⟩ := (HCm.out W).1 rfl
          have hTT : T = tt := by rw [HTT.out]; exact ByteArray.append_empty
          go_wp2
          go_meet
          exact ⟨by rw [hTT], HSy.out⟩
        · obtain ⟨rfl, rfl⟩ := (HCm.out W).2 h0
          have hi0 : 0 < i := by omega
          have HB4 := Aside0.mk (HBl2.out _ _ HSy.out.1 HYl.out)
          obtain ⟨sc, hsc⟩ : ∃ t, t = bStr (blk y).1 := ⟨_, rfl⟩
          have zc : sc.size ≤ 65537 := by rw [hsc, bStr_size]; exact blk_len _
          have hsz2 : ((⟨#[44]⟩ : ByteArray) ++ sc).size ≤ 65538 := by rw [ByteArray.size_append]; show 1 + _ ≤ _; omega
          have hTT : Aside0 (T = tt ++ ((⟨#[44]⟩ : ByteArray) ++ sc)) := ⟨by rw [HTT.out, hsc]; show _ = tt ++ (bStr [44] ++ _); rw [bStr_app]; rfl⟩
          rw [← hsc] at HB4
          clear hsc h0
          go_wp2_with fail
          refine HB4.out.mono ?_
          rintro e w2 ⟨rfl, hS2⟩
          have HW2 := Aside0.mk (HSy.out.trans hS2)
          clear hS2 k1 ec
          go_wp2
          go_meet
          exact ⟨by rw [hTT.out], HW2.out⟩
      case rest =>
        obtain ⟨rfl, hSx⟩ := hcut
        have HW1 := Aside0.mk hSx
        have k1b := hSx.cell HBx.out.1.lt HBx.out.2 HBx.out.1.c1
        clear hSx HCm HTT ec k1
        go_wp2_with fail
        refine (HQ.out _ HW1.out).mono ?_
        rintro e w2 ⟨rfl, hS2⟩
        have HW2 := Aside0.mk (HW1.out.trans hS2)
        clear hS2
        have HB5 := Aside0.mk (HB3.out _ HW2.out)
        clear k1b
        go_wp2_with fail
        refine HB5.out.mono ?_
        rintro e w3 ⟨rfl, hS3⟩
        have HW3 := Aside0.mk (HNew.out _ (HW2.out.trans hS3))
        clear hS3
        go_wp2
        go_roundw
        case rel => exact HW3.out
        case measure => simp [intOf]; omega
    · have hin : i = li.length := by rw [← HN.out]; omega
      have hdrop : li.drop i = [] := List.drop_of_length_le (by omega)
      rw [hdrop] at h1 h2
      have hs0 : seqF (itemF true) (decide (i = 0)) [] y = ([], y) := by cases decide (i = 0) <;> rfl
      rw [hs0] at h1 h2
      have HR : Aside0 (bStr acc ++ (⟨#[93]⟩ : ByteArray) = bStr (listF true li x).1 ∧ Sty W g (listF true li x).2 wr) := ⟨by
        rw [← h1]
        show _ ++ bStr [93] = _
        rw [bStr_app]
        rfl, by rw [← h2]; exact hS⟩
      obtain ⟨tt, htt⟩ : ∃ t, t = bStr acc := ⟨_, rfl⟩
      have hts : tt.size ≤ 5000000 := by rw [htt, bStr_size]; omega
      rw [← htt] at HR ⊢
      clear h1 h2 hy hS hal hs0 hdrop htt hin
      go_wp2
      go_ret
      exact ⟨by rw [← HR.out.1]; rfl, Sty.pre HB0.out HR.out.2⟩
/-- Where the writing of a list stands. -/
def List6Rel (W : World) (g : Nat) (li : List ByteArray) (x : Nat) (s5 s66 : Value) (wr : World) : Prop :=
  ∃ (i y : Nat) (acc : Bs), s66 = .int .i64 (i : Int) ∧ i ≤ li.length ∧ s5 = .string (bStr acc) ∧ acc ++ ((seqF (itemF false) (decide (i = 0)) (li.drop i) y).1 ++ [93]) = (listF false li x).1 ∧ (seqF (itemF false) (decide (i = 0)) (li.drop i) y).2 = (listF false li x).2 ∧ y < 18446744073709551616 ∧ Sty W g y wr ∧ acc.length ≤ 70000 + 140000 * i
set_option maxHeartbeats 4000000 in
theorem value6_any (w : World) (g x : Nat) (nm : ByteArray) (is mi : Bool) (nu : Int) (tx : ByteArray) (A : Option Addr) (c : Nat) (li : List ByteArray) (h : StyAt w g x) (hx : x < 18446744073709551616) (hl : li.length ≤ 30) (hli : ∀ s ∈ li, TOk s) (hC : Kd.string.C w A li.length li) (hle : li.length ≤ c) (hA : 0 < li.length → ∀ a, A = some a → a.block ≠ g) :
    Calls Tryz.prog 29 #[.pointer (some ⟨g, 0, none⟩), .agg #[.string nm, .int .u8 6, .bool is, .bool mi, .int .u64 nu, .string tx, .slice A li.length c]] w fun e w' => e = .returned (.string (bStr (listF false li x).1)) ∧ Sty w g (listF false li x).2 w' := by
  have hB := BoxIs.new w nm 6 is mi nu tx (.slice A li.length c)
  have hSt := h.on ((Below.refl w.heap.size w).alloc (Nat.le_refl _) (.cells #[.string nm, .int .u8 6, .bool is, .bool mi, .int .u64 nu, .string tx, .slice A li.length c] 72))
  have hb0 : Below w.heap.size w (w.alloc (.cells #[.string nm, .int .u8 6, .bool is, .bool mi, .int .u64 nu, .string tx, .slice A li.length c] 72)) := (Below.refl _ _).alloc (Nat.le_refl _) _
  have hbg : w.heap.size ≠ g := by have := blkT_lt h.ty; omega
  have hu := Tryz.underlying72
  have hCW := Kd.C_below hC hb0
  obtain ⟨W, hW⟩ : ∃ W, W = w.alloc (.cells #[.string nm, .int .u8 6, .bool is, .bool mi, .int .u64 nu, .string tx, .slice A li.length c] 72) := ⟨_, rfl⟩
  rw [← hW] at hB hSt hb0 hCW
  obtain ⟨b, hbb⟩ : ∃ b, b = w.heap.size := ⟨_, rfl⟩
  rw [← hbb] at hB hbg
  have HW := Aside0.mk hW
  have HBl := Aside0.mk (blank_any W g x hSt hx)
  have HBl2 := Aside0.mk (fun (wz : World) (y : Nat) (hS : StyAt wz g y) (hy : y < 18446744073709551616) => blank_any wz g y hS hy)
  have HCW := Aside0.mk (And.intro hCW hA)
  have HLi := Aside0.mk hli
  have HBx := Aside0.mk (And.intro hB hbg)
  have HB0 := Aside0.mk hb0
  have HSt := Aside0.mk hSt
  have H0 : Aside0 (∀ wz, Sty W g (blk x).2 wz → List6Rel W g li x (.string ((⟨#[91]⟩ : ByteArray) ++ bStr (blk x).1)) (.int .i64 0) wz) := ⟨fun wz hS => ⟨0, (blk x).2, 91 :: (blk x).1, rfl, Nat.zero_le _, by
      show Value.string (bStr [91] ++ _) = _
      rw [bStr_app]
      rfl, by
      unfold listF
      simp only [decide_true, List.drop_zero, List.cons_append]
      , rfl, blk_lt _ hx, hS, by have := blk_len x; simp only [List.length_cons]; omega⟩⟩
  obtain ⟨k0, k1, k2, k3, k4, k5, k6⟩ := And.intro hB.c0 (And.intro hB.c1 (And.intro hB.c2 (And.intro hB.c3 (And.intro hB.c4 (And.intro hB.c5 hB.c6)))))
  obtain ⟨s1, hs1⟩ : ∃ t, t = bStr (blk x).1 := ⟨_, rfl⟩
  have z1 : s1.size ≤ 65537 := by rw [hs1, bStr_size]; exact blk_len _
  rw [← hs1] at HBl H0
  obtain ⟨n, hn⟩ : ∃ n, n = li.length := ⟨_, rfl⟩
  have hnl : n ≤ 30 := by omega
  have hnc : n ≤ c := by omega
  have HN := Aside0.mk hn
  clear hSt hb0 h hx hB hbg hC hCW hA hli hs1 hW hn hl hle
  go_enter Tryz.func29, Tryz.ntmps29
  go_upto_region 16 with (fail)
  rw [← hbb, ← HW.out]
  clear k0 hbb
  go_wp2_with fail
  refine HBl.out.mono ?_
  rintro e w1 ⟨rfl, hS1⟩
  have HS1 := Aside0.mk hS1
  have k6b := hS1.cell HBx.out.1.lt HBx.out.2 k6
  clear hS1 k1 k2 k3 k4 k5 k6
  rw [← HN.out] at k6b
  go_upto_region 18 with (fail)
  go_loopw [5, 66] (fun s5 s66 wr => List6Rel W g li x s5 s66 wr) (fun _ s66 _ => n - (intOf s66).toNat)
  case atStart => exact H0.out _ HS1.out
  case round =>
    clear H0 HBl k6b
    obtain ⟨i, y, acc, rfl, hi, rfl, h1, h2, hy, hS, hal⟩ := hrel
    rw [← HN.out] at hi
    by_cases hlt : i < n
    · have hli : i < li.length := by rw [← HN.out]; exact hlt
      obtain ⟨s, hs⟩ : ∃ s, s = li[i] := ⟨_, rfl⟩
      have hsok : TOk s := by rw [hs]; exact HLi.out _ (List.getElem_mem hli)
      obtain ⟨a1, rfl, ec⟩ := C1_get (C_sty HCW.out.1 hS HCW.out.2) i hli
      rw [← hs] at ec
      have hdrop : li.drop i = s :: li.drop (i + 1) := by rw [hs]; exact List.drop_eq_getElem_cons hli
      rw [hdrop] at h1 h2
      have k1 := hS.cell HBx.out.1.lt HBx.out.2 HBx.out.1.c1
      have HSy := Aside0.mk hS
      have HYl := Aside0.mk hy
      obtain ⟨tt, htt⟩ : ∃ t, t = bStr acc := ⟨_, rfl⟩
      have hts : tt.size ≤ 5000000 := by rw [htt, bStr_size]; omega
      rw [← htt]
      -- the comma
      obtain ⟨cm, hcm⟩ : ∃ cm : Bs × Nat, cm = if i = 0 then ([], y) else (44 :: (blk y).1, (blk y).2) := ⟨_, rfl⟩
      have hcl : cm.1.length ≤ 65538 := by
        rw [hcm]
        split
        · simp
        · have := blk_len y
          simp only [List.length_cons]
          omega
      have hy1 : cm.2 < 18446744073709551616 := by
        rw [hcm]
        split
        · exact hy
        · exact blk_lt _ hy
      have hseq : seqF (itemF false) (decide (i = 0)) (s :: li.drop (i + 1)) y = (cm.1 ++ ((itemF false s cm.2).1 ++ (seqF (itemF false) false (li.drop (i + 1)) (itemF false s cm.2).2).1), (seqF (itemF false) false (li.drop (i + 1)) (itemF false s cm.2).2).2) := by
        rw [hcm]
        by_cases h0 : i = 0
        · rw [decide_eq_true h0, if_pos h0]; rfl
        · rw [decide_eq_false h0, if_neg h0]; rfl
      rw [hseq] at h1 h2
      obtain ⟨c1, y1⟩ := cm
      simp only at h1 h2 hcl hy1
      obtain ⟨T, hT⟩ : ∃ t, t = tt ++ bStr c1 := ⟨_, rfl⟩
      have hTs : T.size ≤ 5100000 := by rw [hT, ByteArray.size_append, bStr_size]; omega
      have HQ := Aside0.mk (fun (wz : World) => headDigits_any s.size wz (by have := hsok.len; omega))
      have hz2 : (digF s.size).length ≤ 2402 := by have := digF_len s.size; omega
      have hy2 : True := trivial
      have ly2 : y1 < 18446744073709551616 := hy1
      have hit : (itemF false s y1) = (digF s.size ++ (blk y1).1, (blk y1).2) := rfl
      have hcv : IntKind.u64.wrap ((s.size : Nat) : Int) = ((s.size : Nat) : Int) := by rw [IntKind.wrap_u64]; have := hsok.len; omega
      obtain ⟨q, hq⟩ : ∃ q, q = digF s.size := ⟨_, rfl⟩
      have hql : q.length ≤ 2402 := by rw [hq]; exact hz2
      rw [← hq] at HQ hit
      rw [hit] at h1 h2
      have hbl := blk_len y1
      have HNew : Aside0 (∀ wz, Sty W g (blk y1).2 wz → List6Rel W g li x (.string (T ++ bStr q ++ bStr (blk y1).1)) (.int .i64 ((i + 1 : Nat) : Int)) wz) := ⟨fun wz hS3 => ⟨i + 1, (blk y1).2, acc ++ (c1 ++ (q ++ (blk y1).1)), rfl, hli, by rw [hT, htt]; simp only [bStr_app, List.append_assoc], by
          rw [← h1, decide_eq_false (by omega : ¬ i + 1 = 0)]
          simp only [List.append_assoc], by
          rw [← h2, decide_eq_false (by omega : ¬ i + 1 = 0)], blk_lt _ ly2, hS3, by
          simp only [List.length_append]
          omega⟩⟩
      obtain ⟨sq, hsq⟩ : ∃ t, t = bStr q := ⟨_, rfl⟩
      have zq : sq.size ≤ 2402 := by rw [hsq, bStr_size]; exact hql
      obtain ⟨sb, hsb⟩ : ∃ t, t = bStr (blk y1).1 := ⟨_, rfl⟩
      have zb : sb.size ≤ 65537 := by rw [hsb, bStr_size]; exact hbl
      have hTq : (T ++ sq).size ≤ 5200000 := by rw [ByteArray.size_append]; omega
      have HB3 := Aside0.mk (fun (wz : World) (hS : Sty W g y1 wz) => HBl2.out wz y1 hS.1 ly2)
      rw [← hsq] at HQ HNew
      rw [← hsb] at HB3 HNew
      have HCm : Aside0 (∀ (wz : World), (i = 0 → c1 = [] ∧ y1 = y) ∧ (i ≠ 0 → c1 = 44 :: (blk y).1 ∧ y1 = (blk y).2)) := ⟨fun _ => by
        by_cases h0 : i = 0
        · rw [if_pos h0] at hcm
          injection hcm with e1 e2
          exact ⟨fun _ => ⟨e1, e2⟩, fun hh => absurd h0 hh⟩
        · rw [if_neg h0] at hcm
          injection hcm with e1 e2
          exact ⟨fun hh => absurd hh h0, fun _ => ⟨e1, e2⟩⟩⟩
      have HTT := Aside0.mk hT
      have hy1b := Aside0.mk hy1
      have hsz := hsok.len
      clear h1 h2 hy hS hal hi hs hdrop hcm hseq htt hcl hT hit hz2 hy2 hq hql hbl hsq hsb ly2 hli HN hsok hy1
      go_upto_if 72 with (fail)
      go_cut [5] from 71 to 77 (fun x5 wx => x5 = .string T ∧ Sty W g y1 wx)
      case first =>
        by_cases h0 : i = 0
        · subst h0
          obtain ⟨rfl, rfl⟩ := (HCm.out W).1 rfl
          have hTT : T = tt := by rw [HTT.out]; exact ByteArray.append_empty
          go_wp2
          go_meet
          exact ⟨by rw [hTT], HSy.out⟩
        · obtain ⟨rfl, rfl⟩ := (HCm.out W).2 h0
          have hi0 : 0 < i := by omega
          have HB4 := Aside0.mk (HBl2.out _ _ HSy.out.1 HYl.out)
          obtain ⟨sc, hsc⟩ : ∃ t, t = bStr (blk y).1 := ⟨_, rfl⟩
          have zc : sc.size ≤ 65537 := by rw [hsc, bStr_size]; exact blk_len _
          have hsz2 : ((⟨#[44]⟩ : ByteArray) ++ sc).size ≤ 65538 := by rw [ByteArray.size_append]; show 1 + _ ≤ _; omega
          have hTT : Aside0 (T = tt ++ ((⟨#[44]⟩ : ByteArray) ++ sc)) := ⟨by rw [HTT.out, hsc]; show _ = tt ++ (bStr [44] ++ _); rw [bStr_app]; rfl⟩
          rw [← hsc] at HB4
          clear hsc h0
          go_wp2_with fail
          refine HB4.out.mono ?_
          rintro e w2 ⟨rfl, hS2⟩
          have HW2 := Aside0.mk (HSy.out.trans hS2)
          clear hS2 k1 ec
          go_wp2
          go_meet
          exact ⟨by rw [hTT.out], HW2.out⟩
      case rest =>
        obtain ⟨rfl, hSx⟩ := hcut
        have HW1 := Aside0.mk hSx
        have k1b := hSx.cell HBx.out.1.lt HBx.out.2 HBx.out.1.c1
        clear hSx HCm HTT ec k1
        go_wp2_with fail
        refine (HQ.out _).mono ?_
        rintro e w2 ⟨rfl, rfl⟩
        have HW2 := Aside0.mk HW1.out
        have HB5 := Aside0.mk (HB3.out _ HW2.out)
        clear k1b
        go_wp2_with fail
        refine HB5.out.mono ?_
        rintro e w3 ⟨rfl, hS3⟩
        have HW3 := Aside0.mk (HNew.out _ (HW2.out.trans hS3))
        clear hS3
        go_wp2
        go_roundw
        case rel => exact HW3.out
        case measure => simp [intOf]; omega
    · have hin : i = li.length := by rw [← HN.out]; omega
      have hdrop : li.drop i = [] := List.drop_of_length_le (by omega)
      rw [hdrop] at h1 h2
      have hs0 : seqF (itemF false) (decide (i = 0)) [] y = ([], y) := by cases decide (i = 0) <;> rfl
      rw [hs0] at h1 h2
      have HR : Aside0 (bStr acc ++ (⟨#[93]⟩ : ByteArray) = bStr (listF false li x).1 ∧ Sty W g (listF false li x).2 wr) := ⟨by
        rw [← h1]
        show _ ++ bStr [93] = _
        rw [bStr_app]
        rfl, by rw [← h2]; exact hS⟩
      obtain ⟨tt, htt⟩ : ∃ t, t = bStr acc := ⟨_, rfl⟩
      have hts : tt.size ≤ 5000000 := by rw [htt, bStr_size]; omega
      rw [← htt] at HR ⊢
      clear h1 h2 hy hS hal hs0 hdrop htt hin
      go_wp2
      go_ret
      exact ⟨by rw [← HR.out.1]; rfl, Sty.pre HB0.out HR.out.2⟩
end Go.Proofs.YtgldcjmdjhghpaaGreatDoor
