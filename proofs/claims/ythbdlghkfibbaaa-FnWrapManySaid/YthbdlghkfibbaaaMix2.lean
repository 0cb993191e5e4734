/-
  impl.mixedHalves, impl.mixedBlock: their contracts.
-/
import Derived.Test.YthbdlghkfibbaaaMix
import Derived.BigQuiet
namespace Go.Proofs.Ythbdlghkfibbaaa
open Go.RowKit Go.Proofs.YthbdlghkfibbaaaW.PrintWords Go.Lib
set_option linter.unusedVariables false
set_option linter.unusedSimpArgs false
theorem Hold.cellAt {w0 w : World} {B : Nat} {L : List Asrt} {g t : Nat} {cs : Array Value} (hS : Hold w0 B w L) (i : Nat) (hi : L[i]? = some (.blk g (.cells cs t))) (j : Nat) (v : Value) (hv : cs[j]? = some v) : w.cell? ⟨g, j, none⟩ = some v ∧ w.frozen? ⟨g, j, none⟩ = false := by
  obtain ⟨hj, rfl⟩ := Array.getElem?_eq_some_iff.1 hv
  exact hS.cell i hi j hj
def beN (l : List UInt8) : Nat := l.foldl (fun n c => n * 256 + c.toNat) 0
theorem beN_snoc (l : List UInt8) (c : UInt8) : beN (l ++ [c]) = beN l * 256 + c.toNat := by
  unfold beN
  rw [List.foldl_append]
  rfl
theorem beNG_lt : ∀ (l : List UInt8) (n : Nat), l.foldl (fun n c => n * 256 + c.toNat) n < (n + 1) * 256 ^ l.length
  | [], n => by simp
  | x :: r, n => by
    have hx := x.toNat_lt
    have ih := beNG_lt r (n * 256 + x.toNat)
    simp only [List.foldl_cons]
    refine Nat.lt_of_lt_of_le ih ?_
    rw [List.length_cons, Nat.pow_succ, Nat.mul_comm (256 ^ r.length) 256, ← Nat.mul_assoc]
    exact Nat.mul_le_mul_right _ (by omega)
theorem beN_lt (l : List UInt8) : beN l < 256 ^ l.length := by
  have := beNG_lt l 0
  rw [Nat.zero_add, Nat.one_mul] at this
  exact this
theorem be_step (n : Nat) (x : UInt8) (h : n < 72057594037927936) : bits .or .u64 (IntKind.u64.wrap ((n : Int) * 256)) (IntKind.u64.wrap (x.toNat : Int)) = ((n * 256 + x.toNat : Nat) : Int) := by
  have hx := x.toNat_lt
  rw [show (n : Int) * 256 = ((n * 256 : Nat) : Int) by omega, wrapU, wrapU, Nat.mod_eq_of_lt (by omega), Nat.mod_eq_of_lt (by omega), u64_or_nat _ _ (by omega) (by omega), show n * 256 = n * 2 ^ 8 from rfl, Nat.mul_comm n, ← Nat.two_pow_add_eq_or_of_lt (by omega)]
set_option maxRecDepth 100000 in
set_option maxHeartbeats 4000000 in
theorem halves_any (w : World) (xs : List UInt8) (h16 : xs.length = 16) :
    Calls Try.prog 78 #[.agg (xs.map bV).toArray] w fun e w' => e = .returned (.tuple #[.int .u64 (beN (xs.take 8) : Nat), .int .u64 (beN (xs.drop 8) : Nat)]) ∧ Hold w w.heap.size w' [] := by
  have H1 := Aside0.mk ((Hold.start w).alloc (.cells (xs.map bV).toArray 53))
  have HX := Aside0.mk h16
  clear h16
  go_enter Try.func78, Try.ntmps78
  go_wp2
  go_loopw [2, 3, 4] (fun l r i wr => ∃ k : Nat, k ≤ 8 ∧ i = .int .i64 k ∧ l = .int .u64 (beN (xs.take k) : Nat) ∧ r = .int .u64 (beN ((xs.drop 8).take k) : Nat) ∧ Hold w w.heap.size wr [.blk w.heap.size (.cells (xs.map bV).toArray 53)]) (fun _ _ i _ => 8 - (intOf i).toNat)
  case atStart => exact ⟨0, by omega, rfl, rfl, rfl, H1.out⟩
  case round =>
    obtain ⟨k, hk, rfl, rfl, rfl, hR⟩ := hrel
    by_cases hlt : k < 8
    · have cell : ∀ j, (hj : j < 16) → wr.cell? ⟨w.heap.size, j, none⟩ = some (.int .u8 ((xs[j]'(by rw [HX.out]; exact hj)).toNat : Int)) := fun j hj => by
        have := (hR.cellAt 0 rfl j (bV (xs[j]'(by rw [HX.out]; exact hj))) (by simp [List.getElem?_eq_getElem (show j < xs.length by rw [HX.out]; exact hj)])).1
        exact this
      have e1 := cell k (by omega)
      have e2 := cell (8 + k) (by omega)
      obtain ⟨x, hx⟩ : ∃ x, x = xs[k]'(by rw [HX.out]; omega) := ⟨_, rfl⟩
      obtain ⟨y, hy⟩ : ∃ y, y = xs[8 + k]'(by rw [HX.out]; omega) := ⟨_, rfl⟩
      rw [← hx] at e1
      rw [← hy] at e2
      have HN1 : Aside0 (beN (xs.take (k + 1)) = beN (xs.take k) * 256 + x.toNat) := ⟨by
        rw [List.take_succ_eq_append_getElem (by rw [HX.out]; omega), beN_snoc, hx]⟩
      have HN2 : Aside0 (beN ((xs.drop 8).take (k + 1)) = beN ((xs.drop 8).take k) * 256 + y.toNat) := ⟨by
        rw [List.take_succ_eq_append_getElem (by rw [List.length_drop, HX.out]; omega), beN_snoc, hy, List.getElem_drop]⟩
      have b1 : beN (xs.take k) < 72057594037927936 := by
        have := beN_lt (xs.take k)
        rw [List.length_take, HX.out, Nat.min_eq_left (by omega)] at this
        have h2 : 256 ^ k ≤ 256 ^ 7 := Nat.pow_le_pow_right (by decide) (by omega)
        exact Nat.lt_of_lt_of_le this h2
      have b2 : beN ((xs.drop 8).take k) < 72057594037927936 := by
        have := beN_lt ((xs.drop 8).take k)
        rw [List.length_take, List.length_drop, HX.out, Nat.min_eq_left (by omega)] at this
        have h2 : 256 ^ k ≤ 256 ^ 7 := Nat.pow_le_pow_right (by decide) (by omega)
        exact Nat.lt_of_lt_of_le this h2
      obtain ⟨n1, hn1⟩ : ∃ n1, n1 = beN (xs.take k) := ⟨_, rfl⟩
      obtain ⟨n2, hn2⟩ : ∃ n2, n2 = beN ((xs.drop 8).take k) := ⟨_, rfl⟩
      rw [← hn1] at HN1 b1 ⊢
      rw [← hn2] at HN2 b2 ⊢
      have s1 := be_step n1 x b1
      have s2 := be_step n2 y b2
      have HR := Aside0.mk hR
      have hx8 := x.toNat_lt
      have hy8 := y.toNat_lt
      clear cell hx hy hn1 hn2 hR b1 b2 hx8 hy8
      go_wp2
      go_quiet (fail)
      go_wp2
      refine ⟨⟨k + 1, by omega, ?_, ?_, ?_, HR.out.drewN nq⟩, by simp [intOf]; omega⟩
      · first | rfl | (rw [Int.natCast_add]; rfl)
      · rw [HN1.out]
        simp
      · rw [HN2.out]
        simp
    · obtain rfl : k = 8 := by omega
      have HR := Aside0.mk hR
      have hd : (xs.drop 8).take 8 = xs.drop 8 := List.take_of_length_le (by rw [List.length_drop, HX.out]; exact Nat.le_refl _)
      rw [hd]
      clear hd hR
      go_wp2
      go_ret2
      exact ⟨rfl, HR.out.tail⟩
end Go.Proofs.Ythbdlghkfibbaaa
