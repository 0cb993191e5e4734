/-
  spec's headStyle.value of any field, and HeadText: their contracts. Printed by textgen.py.
-/
import Derived.Test.YtgldcjmdjhghpaaGreatDoorHv
namespace Go.Proofs.YtgldcjmdjhghpaaGreatDoor
open Go.RowKit Go.Proofs.YtgldcjmdjhghpaaGreatDoorW.PrintWords Go.ChangeShapes Go.WideShapes
set_option linter.unusedVariables false
set_option linter.unusedSimpArgs false
set_option maxRecDepth 100000
theorem value_any (w : World) (g x : Nat) (f : Hf) (A : Option Addr) (c : Nat) (hf : FOk f) (h : StyAt w g x) (hx : x < 18446744073709551616) (hC : Kd.string.C w A f.2.2.2.2.2.2.length f.2.2.2.2.2.2) (hle : f.2.2.2.2.2.2.length ≤ c) (hA : 0 < f.2.2.2.2.2.2.length → ∀ a, A = some a → a.block ≠ g) :
    Calls Tryz.prog 29 #[.pointer (some ⟨g, 0, none⟩), .agg (hfCells f A c)] w fun e w' => e = .returned (.string (bStr (valF f x).1)) ∧ Sty w g (valF f x).2 w' := by
  obtain ⟨nm, kd, is, mi, nu, tx, li⟩ := f
  have hk0 : 0 ≤ kd := hf.k0
  have hk6 : kd ≤ 6 := hf.k6
  have hn0 : 0 ≤ nu := hf.n0
  have hn1 : nu < 18446744073709551616 := hf.n1
  obtain ⟨n, rfl⟩ := Int.eq_ofNat_of_zero_le hn0
  rcases (show kd = 0 ∨ kd = 1 ∨ kd = 2 ∨ kd = 3 ∨ kd = 4 ∨ kd = 5 ∨ kd = 6 by omega) with rfl | rfl | rfl | rfl | rfl | rfl | rfl
  · exact value0_any w g x nm is mi _ tx _ h hx
  · exact value1_any w g x nm is mi _ tx _ h hx
  · have := value2_any w g x nm is mi (n : Int) tx (.slice A li.length c) h hx n rfl (by omega)
    have e : valF (nm, 2, is, mi, (n : Int), tx, li) x = ((if (mi && decide (0 < n)) = true then [45] else []) ++ digF n, x) := by
      unfold valF
      simp only [Int.toNat_natCast]
      have hd : decide ((0 : Int) < (n : Int)) = decide (0 < n) := by congr 1; exact propext ⟨fun h => by omega, fun h => by omega⟩
      rw [if_neg (by decide), if_neg (by decide)]
      simp only [if_true, hd]
    rw [e]
    exact this
  · exact value3_any w g x nm is mi _ tx _ h hx hf.text
  · exact value4_any w g x nm is mi _ tx A c li h hx hf.len hf.list hC hle hA
  · exact value5_any w g x nm is mi _ tx _ h hx hf.text
  · exact value6_any w g x nm is mi _ tx A c li h hx hf.len hf.list hC hle hA
theorem valF_lt (f : Hf) (x : Nat) (h : x < 18446744073709551616) : (valF f x).2 < 18446744073709551616 := by
  have hit : ∀ k4 s y, y < 18446744073709551616 → (itemF k4 s y).2 < 18446744073709551616 := fun k4 s y hy => by
    unfold itemF
    split
    · exact blk_lt _ (quoF_lt _ _ hy)
    · exact blk_lt _ hy
  have hsq : ∀ (k4 : Bool) (l : List ByteArray) (b : Bool) (y : Nat), y < 18446744073709551616 → (seqF (itemF k4) b l y).2 < 18446744073709551616 := by
    intro k4 l
    induction l with
    | nil => intro b y hy; cases b <;> exact hy
    | cons s r ih =>
      intro b y hy
      cases b with
      | true => exact ih _ _ (hit _ _ _ hy)
      | false => exact ih _ _ (hit _ _ _ (blk_lt _ hy))
  unfold valF
  split
  · exact h
  split
  · exact h
  split
  · exact h
  split
  · exact quoF_lt _ _ h
  split
  · exact blk_lt _ (blk_lt _ (blk_lt _ (quoF_lt _ _ (blk_lt _ h))))
  · exact hsq _ _ _ _ (blk_lt _ h)
theorem valF_len {f : Hf} (hf : FOk f) (x : Nat) : (valF f x).1.length ≤ 5000000 := by
  have hsq : ∀ (k4 : Bool) (l : List ByteArray) (b : Bool) (y : Nat), (∀ s ∈ l, TOk s) → (seqF (itemF k4) b l y).1.length ≤ 140000 * l.length := by
    intro k4 l
    induction l with
    | nil => intro b y _; cases b <;> exact Nat.le_refl _
    | cons s r ih =>
      intro b y hl
      have hs := hl s (List.mem_cons_self ..)
      have hit : ∀ y, (itemF k4 s y).1.length ≤ 68000 := fun y => by
        unfold itemF
        split
        · have := quoF_len hs y
          have := blk_len (quoF s y).2
          simp only [List.length_append]
          omega
        · have := digF_len s.size
          have := blk_len y
          simp only [List.length_append]
          omega
      have hr := fun b y => ih b y (fun t ht => hl t (List.mem_cons_of_mem _ ht))
      cases b with
      | true =>
        have h1 := hit y
        have h2 := hr false (itemF k4 s y).2
        show ((itemF k4 s y).1 ++ (seqF (itemF k4) false r (itemF k4 s y).2).1).length ≤ _
        rw [List.length_append, List.length_cons]
        omega
      | false =>
        have h1 := hit (blk y).2
        have h2 := hr false (itemF k4 s (blk y).2).2
        have h3 := blk_len y
        show (44 :: ((blk y).1 ++ ((itemF k4 s (blk y).2).1 ++ (seqF (itemF k4) false r (itemF k4 s (blk y).2).2).1))).length ≤ _
        simp only [List.length_append, List.length_cons]
        omega
  have hlst : ∀ k4 y, (listF k4 f.2.2.2.2.2.2 y).1.length ≤ 5000000 := fun k4 y => by
    have h1 := hsq k4 f.2.2.2.2.2.2 true (blk y).2 hf.list
    have h2 := blk_len y
    have h3 := hf.len
    unfold listF
    simp only [List.length_append, List.length_cons, List.length_nil]
    omega
  unfold valF
  split
  · show 4 ≤ 5000000
    decide
  split
  · split
    · show 4 ≤ 5000000
      decide
    · show 5 ≤ 5000000
      decide
  split
  · have := digF_len f.2.2.2.2.1.toNat
    rw [List.length_append]
    split
    · simp only [List.length_cons, List.length_nil]; omega
    · simp only [List.length_nil]; omega
  split
  · have := quoF_len hf.text x; omega
  split
  · unfold nestF
    have h1 := blk_len x
    have h2 := quoF_len hf.text (blk x).2
    have h3 := blk_len (quoF f.2.2.2.2.2.1 (blk x).2).2
    have h4 := blk_len (blk (quoF f.2.2.2.2.2.1 (blk x).2).2).2
    have h5 := blk_len (blk (blk (quoF f.2.2.2.2.2.1 (blk x).2).2).2).2
    simp only [List.length_append, List.length_cons, List.length_nil]
    omega
  · exact hlst _ _
def fld8Val (g b : Nat) (cs : Array Value) (nm t6 s1 s2 s3 s4 s5 a39 a40 a43 a47 a50 a51 : ByteArray) (d : Nat) : Value :=
  match d with
  | 32 => .string t6
  | 33 => .pointer (some ⟨g, 0, none⟩)
  | 34 => .pointer (some ⟨b, 0, none⟩)
  | 35 => .string nm
  | 36 => .string s1
  | 37 => .pointer (some ⟨g, 0, none⟩)
  | 38 => .string s2
  | 39 => .string a39
  | 40 => .string a40
  | 41 => .pointer (some ⟨g, 0, none⟩)
  | 42 => .string s3
  | 43 => .string a43
  | 44 => .pointer (some ⟨g, 0, none⟩)
  | 45 => .agg cs
  | 46 => .string s4
  | 47 => .string a47
  | 48 => .pointer (some ⟨g, 0, none⟩)
  | 49 => .string s5
  | 50 => .string a50
  | 51 => .string a51
  | 6 => .string a51
  | _ => undef
def fld8Rd (i : Nat) : List (Nat × Nat) :=
  match i with
  | 0 => [(20, 6)]
  | _ => []
def fld8Dp (i : Nat) : List (Nat × Nat) :=
  match i with
  | 3 => [(2, 34)]
  | 4 => [(1, 33), (3, 35)]
  | 6 => [(5, 37)]
  | 7 => [(4, 36), (6, 38)]
  | 8 => [(7, 39)]
  | 10 => [(9, 41)]
  | 11 => [(8, 40), (10, 42)]
  | 14 => [(12, 44), (13, 45)]
  | 15 => [(11, 43), (14, 46)]
  | 17 => [(16, 48)]
  | 18 => [(15, 47), (17, 49)]
  | 19 => [(0, 32), (18, 50)]
  | 20 => [(19, 51)]
  | _ => []
theorem cell_lt {w : World} {p : Addr} {v : Value} (h : w.cell? p = some v) : p.block < w.heap.size := by
  cases hq : w.heap[p.block]? with
  | none => simp [World.cell?, hq] at h
  | some o => exact (Array.getElem?_eq_some_iff.1 hq).1
theorem fieldF_lt (f : Hf) (x : Nat) (h : x < 18446744073709551616) : (fieldF f x).2 < 18446744073709551616 := blk_lt _ (valF_lt _ _ (blk_lt _ (blk_lt _ (quoF_lt _ _ h))))
theorem fieldF_len {f : Hf} (hf : FOk f) (x : Nat) : (fieldF f x).1.length ≤ 5300000 := by
  have h1 := quoF_len hf.name x
  have h2 := blk_len (quoF f.1 x).2
  have h3 := blk_len (blk (quoF f.1 x).2).2
  have h4 := valF_len hf (blk (blk (quoF f.1 x).2).2).2
  have h5 := blk_len (valF f (blk (blk (quoF f.1 x).2).2).2).2
  unfold fieldF
  simp only [List.length_append, List.length_cons]
  omega
/-- Where the writing of a header stands. -/
def HeadRel (w : World) (g : Nat) (l : List Hf) (x : Nat) (s6 s20 : Value) (wr : World) : Prop :=
  ∃ (i y : Nat) (acc : Bs), s20 = .int .i64 (i : Int) ∧ i ≤ l.length ∧ s6 = .string (bStr acc) ∧ acc ++ ((seqF fieldF (decide (i = 0)) (l.drop i) y).1 ++ 125 :: (blk (seqF fieldF (decide (i = 0)) (l.drop i) y).2).1) = headF l x ∧ y < 18446744073709551616 ∧ StyAt wr g y ∧ Below w.heap.size w wr ∧ acc.length ≤ 200000 + 5400000 * i
end Go.Proofs.YtgldcjmdjhghpaaGreatDoor
