/-
  The text of a tree of JSON, as a state writes it, and what is read of it: plain.
-/
import Derived.Test.YtgldcjmdjhghpaaGreatDoorKv
namespace Go.Proofs.YtgldcjmdjhghpaaGreatDoor
open Go.RowKit Go.Proofs.YtgldcjmdjhghpaaGreatDoorW.PrintWords Go.ChangeShapes Go.WideShapes
set_option linter.unusedVariables false
set_option linter.unusedSimpArgs false
set_option maxRecDepth 100000
/-- A node without kids, as a field. -/
def leafF (kd : Int) (is mi : Bool) (nu : Int) (tx : ByteArray) : Hf := (ByteArray.empty, kd, is, mi, nu, if kd = 3 then tx else ByteArray.empty, [])
noncomputable def kidF {α : Type} (tr : α → Nat → Bs × Nat) (c : α) (y : Nat) : Bs × Nat := ((tr c y).1 ++ (blk (tr c y).2).1, (blk (tr c y).2).2)
noncomputable def memF {α : Type} (tr : α → Nat → Bs × Nat) (p : ByteArray × α) (y : Nat) : Bs × Nat :=
  ((quoF p.1 y).1 ++ ((blk (quoF p.1 y).2).1 ++ 58 :: ((blk (blk (quoF p.1 y).2).2).1 ++ (kidF tr p.2 (blk (blk (quoF p.1 y).2).2).2).1)), (kidF tr p.2 (blk (blk (quoF p.1 y).2).2).2).2)
/-- The text of a tree. -/
noncomputable def trF : (k : Nat) → TrN k → Nat → Bs × Nat
  | 0, _, y => ([], y)
  | k + 1, x, y =>
    if x.1 < 4 then valF (leafF x.1 x.2.1 x.2.2.1 x.2.2.2.1 x.2.2.2.2.1) y
    else if x.1 = 5 then (123 :: ((blk y).1 ++ ((seqF (memF (trF k)) true (x.2.2.2.2.2.1.zip (kidsL x)) (blk y).2).1 ++ [125])), (seqF (memF (trF k)) true (x.2.2.2.2.2.1.zip (kidsL x)) (blk y).2).2)
    else (91 :: ((blk y).1 ++ ((seqF (kidF (trF k)) true (kidsL x) (blk y).2).1 ++ [93])), (seqF (kidF (trF k)) true (kidsL x) (blk y).2).2)
theorem seqF_lt {α : Type} (one : α → Nat → Bs × Nat) (h : ∀ f y, y < 18446744073709551616 → (one f y).2 < 18446744073709551616) : ∀ (l : List α) (b : Bool) (y : Nat), y < 18446744073709551616 → (seqF one b l y).2 < 18446744073709551616
  | [], b, y, hy => by cases b <;> exact hy
  | f :: r, b, y, hy => by
    cases b with
    | true => exact seqF_lt one h r false _ (h f y hy)
    | false => exact seqF_lt one h r false _ (h f _ (blk_lt _ hy))
theorem kidF_lt {α : Type} {tr : α → Nat → Bs × Nat} (h : ∀ f y, y < 18446744073709551616 → (tr f y).2 < 18446744073709551616) (c : α) (y : Nat) (hy : y < 18446744073709551616) : (kidF tr c y).2 < 18446744073709551616 := blk_lt _ (h c y hy)
theorem memF_lt {α : Type} {tr : α → Nat → Bs × Nat} (h : ∀ f y, y < 18446744073709551616 → (tr f y).2 < 18446744073709551616) (c : ByteArray × α) (y : Nat) (hy : y < 18446744073709551616) : (memF tr c y).2 < 18446744073709551616 := kidF_lt h _ _ (blk_lt _ (blk_lt _ (quoF_lt _ _ hy)))
theorem trF_lt : ∀ (k : Nat) (x : TrN k) (y : Nat), y < 18446744073709551616 → (trF k x y).2 < 18446744073709551616
  | 0, _, y, hy => hy
  | k + 1, x, y, hy => by
    have ih := trF_lt k
    unfold trF
    split
    · exact valF_lt _ _ hy
    · split
      · exact seqF_lt _ (memF_lt ih) _ _ _ (blk_lt _ hy)
      · exact seqF_lt _ (kidF_lt ih) _ _ _ (blk_lt _ hy)
theorem seqF_sum {α : Type} (one : α → Nat → Bs × Nat) : ∀ (l : List α) (ns : List Nat), l.length = ns.length → (∀ (i : Nat) (f : α) (m : Nat), l[i]? = some f → ns[i]? = some m → ∀ y, (one f y).1.length + 65538 ≤ 20000000 * m) → ∀ b y, (seqF one b l y).1.length ≤ 20000000 * ns.sum
  | [], _, _, _, b, y => by cases b <;> simp [seqF]
  | f :: r, [], h, _, b, y => by simp at h
  | f :: r, m :: ns, h, hf, b, y => by
    have ih := seqF_sum one r ns (by simpa using h) (fun i f m h1 h2 => hf (i + 1) f m (by simpa using h1) (by simpa using h2)) false
    have h0 := hf 0 f m rfl rfl
    have hs : (m :: ns).sum = m + ns.sum := by simp
    rw [hs]
    cases b with
    | true =>
      have h1 := h0 y
      have h2 := ih (one f y).2
      show ((one f y).1 ++ (seqF one false r (one f y).2).1).length ≤ _
      rw [List.length_append]
      omega
    | false =>
      have h1 := h0 (blk y).2
      have h2 := ih (one f (blk y).2).2
      have h3 := blk_len y
      show (44 :: ((blk y).1 ++ ((one f (blk y).2).1 ++ (seqF one false r (one f (blk y).2).2).1))).length ≤ _
      rw [List.length_cons, List.length_append, List.length_append]
      omega
theorem tok_nil : TOk ByteArray.empty := ⟨by decide, by decide +kernel⟩
theorem leaf_ok {kd : Int} {is mi : Bool} {nu : Int} {tx : ByteArray} (h0 : 0 ≤ kd) (h4 : kd < 4) (hn : 0 ≤ nu ∧ nu < 18446744073709551616) (h3 : kd = 3 → TOk tx) : FOk (leafF kd is mi nu tx) where
  k0 := h0
  k6 := by show kd ≤ 6; omega
  n0 := hn.1
  n1 := hn.2
  name := tok_nil
  text := by
    show TOk (if kd = 3 then tx else ByteArray.empty)
    split
    · exact h3 ‹_›
    · exact tok_nil
  len := Nat.zero_le _
  list s hs := by cases hs
theorem wf_int {kd nu : Int} (h1 : WfI .u8 kd) (h2 : WfI .u64 nu) : 0 ≤ kd ∧ 0 ≤ nu ∧ nu < 18446744073709551616 := by
  unfold WfI at h1 h2
  simp [Lit.wf, IntKind.min, IntKind.max, IntKind.bits, IntKind.signed] at h1 h2
  exact ⟨by omega, by omega, by omega⟩
theorem zip_get {α β : Type} {l : List α} {r : List β} {i : Nat} {p : α × β} (h : (l.zip r)[i]? = some p) : l[i]? = some p.1 ∧ r[i]? = some p.2 := by
  rw [List.getElem?_zip_eq_some] at h
  exact h
theorem trF_len : ∀ (k : Nat) (x : TrN k) (n : Nat), OkT k x → TGood k x n → ∀ y, (trF k x y).1.length + 10000000 ≤ 20000000 * n
  | 0, _, _, _, h, _ => h.elim
  | k + 1, x, n, hO, hg, y => by
    have ih := trF_len k
    obtain ⟨g5, g3, g6, gl, g1, g4⟩ := hg
    have hw := wf_int hO.1 hO.2.2.2.1
    have hK : ∀ c ∈ kidsL x, OkT k c := hO.2.2.2.2.2.2
    unfold trF
    by_cases h4 : x.1 < 4
    · rw [if_pos h4]
      have := valF_len (leaf_ok (is := x.2.1) (mi := x.2.2.1) hw.1 h4 hw.2 g3) y
      have := g1 h4
      omega
    · rw [if_neg h4]
      obtain ⟨ns, e1, e2, e3⟩ := g4 (by omega)
      have hb := blk_len y
      have hkid : ∀ (i : Nat) (c : TrN k) (m : Nat), (kidsL x)[i]? = some c → ns[i]? = some m → ∀ y, (kidF (trF k) c y).1.length + 9000000 ≤ 20000000 * m := fun i c m h1 h2 y => by
        have h3 := ih c m (hK c (List.mem_of_getElem? h1)) (e2 i c m h1 h2) y
        have h4 := blk_len (trF k c y).2
        show ((trF k c y).1 ++ (blk (trF k c y).2).1).length + _ ≤ _
        rw [List.length_append]
        omega
      by_cases h5 : x.1 = 5
      · rw [if_pos h5]
        obtain ⟨gn, gk⟩ := g6 h5
        have := seqF_sum (memF (trF k)) (x.2.2.2.2.2.1.zip (kidsL x)) ns (by rw [List.length_zip, gk, e1, Nat.min_self]) (fun i p m h1 h2 y => by
          obtain ⟨h6, h7⟩ := zip_get h1
          have h8 := hkid i p.2 m h7 h2 (blk (blk (quoF p.1 y).2).2).2
          have h9 := quoF_len (gn _ (List.mem_of_getElem? h6)) y
          have h10 := blk_len (quoF p.1 y).2
          have h11 := blk_len (blk (quoF p.1 y).2).2
          unfold memF
          simp only [List.length_append, List.length_cons]
          omega) true (blk y).2
        simp only [List.length_append, List.length_cons, List.length_nil]
        omega
      · rw [if_neg h5]
        have := seqF_sum (kidF (trF k)) (kidsL x) ns e1.symm (fun i c m h1 h2 y => by
          have := hkid i c m h1 h2 y
          omega) true (blk y).2
        simp only [List.length_append, List.length_cons, List.length_nil]
        omega
end Go.Proofs.YtgldcjmdjhghpaaGreatDoor
