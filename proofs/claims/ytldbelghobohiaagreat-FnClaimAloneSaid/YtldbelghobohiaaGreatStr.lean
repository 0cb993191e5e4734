/-
  slices.Index, Contains, Equal over texts; laws.zzFits2: their contracts.
-/
import Derived.Test.YtldbelghobohiaaGreatRows
import Derived.WalkKit
import Derived.WalkSpells
import Derived.WalkLawsBesides
import Derived.Deep.QuietTactic
import Derived.BigQuiet
import Derived.Laws.Strings
import Derived.Test.YtldbelghobohiaaGreatEqL
namespace Go.Proofs.YtldbelghobohiaaGreat
open Go.RowKit Go.Proofs.YtldbelghobohiaaGreatW.PrintWords
set_option linter.unusedVariables false
set_option linter.unusedSimpArgs false
/-- Are two texts one? As the walk has it. -/
def sEq (a b : ByteArray) : Bool := a.toList == b.toList
theorem sEq_true {a b : ByteArray} : sEq a b = true ↔ a = b := by
  unfold sEq
  rw [ByteArray.toList_eq, ByteArray.toList_eq, beq_iff_eq]
  constructor
  · intro h
    have : a.data = b.data := by rw [← Array.toArray_toList (xs := a.data), h, Array.toArray_toList]
    cases a; cases b; simp at this; rw [this]
  · rintro rfl; rfl
theorem sEq_false {a b : ByteArray} : sEq a b = false ↔ a ≠ b := by
  rw [← Bool.not_eq_true, sEq_true]
def sIdx (s : ByteArray) : List ByteArray → Option Nat
  | [] => none
  | x :: r => if s = x then some 0 else (sIdx s r).map (· + 1)
def sIdxI (xs : List ByteArray) (s : ByteArray) : Int := match sIdx s xs with | some k => (k : Int) | none => -1
theorem sIdx_none : ∀ {xs : List ByteArray} {s : ByteArray}, (∀ k, (hk : k < xs.length) → s ≠ xs[k]) → sIdx s xs = none
  | [], _, _ => rfl
  | x :: r, s, h => by
    have h0 := h 0 (by simp)
    simp only [List.getElem_cons_zero] at h0
    simp only [sIdx, if_neg h0, sIdx_none (xs := r) (s := s) (fun k hk => by have := h (k + 1) (by simpa using hk); simpa using this), Option.map_none]
theorem sIdx_some : ∀ {xs : List ByteArray} {s : ByteArray} (k : Nat) (hk : k < xs.length), s = xs[k] → (∀ j, (hj : j < xs.length) → j < k → s ≠ xs[j]) → sIdx s xs = some k
  | [], _, _, hk, _, _ => by simp at hk
  | x :: r, s, 0, _, h, _ => by simp only [List.getElem_cons_zero] at h; simp only [sIdx, if_pos h]
  | x :: r, s, k + 1, hk, h, hj => by
    have h0 := hj 0 (by simp) (by omega)
    simp only [List.getElem_cons_zero] at h0
    simp only [sIdx, if_neg h0, sIdx_some (xs := r) (s := s) k (by simpa using hk) (by simpa using h) (fun j hjl hjk => by have := hj (j + 1) (by simpa using hjl) (by omega); simpa using this), Option.map_some]
def sMem (s : ByteArray) (xs : List ByteArray) : Bool := xs.any (sEq s)
theorem sMem_true {s : ByteArray} {xs : List ByteArray} : sMem s xs = true ↔ s ∈ xs := by
  unfold sMem
  rw [List.any_eq_true]
  constructor
  · rintro ⟨x, hx, h⟩
    rw [sEq_true.1 h]
    exact hx
  · intro h
    exact ⟨s, h, sEq_true.2 rfl⟩
theorem sIdx_mem : ∀ (xs : List ByteArray) (s : ByteArray), (sIdx s xs).isSome = sMem s xs
  | [], _ => rfl
  | x :: r, s => by
    unfold sIdx sMem
    rw [List.any_cons]
    by_cases hx : s = x
    · rw [if_pos hx, sEq_true.2 hx]; rfl
    · rw [if_neg hx, sEq_false.2 hx, Option.isSome_map, sIdx_mem r s]; rfl
theorem sIdxI_mem (xs : List ByteArray) (s : ByteArray) : decide (0 ≤ sIdxI xs s) = sMem s xs := by
  rw [← sIdx_mem]
  unfold sIdxI
  cases sIdx s xs with
  | none => rfl
  | some k => exact decide_eq_true (Int.natCast_nonneg k)
structure NotYet (xs : List ByteArray) (s : ByteArray) (k : Nat) : Prop where
  out : ∀ j, (hj : j < xs.length) → j < k → s ≠ xs[j]
set_option maxHeartbeats 1000000 in
theorem sIndex_any (w : World) (A : Option Addr) (n c : Nat) (xs : List ByteArray) (s : ByteArray) (hC : Kd.string.C w A n xs) :
    Calls Tryz.prog 28 #[.slice A n c, .string s] w fun e w' => e = .returned (.int .i64 (sIdxI xs s)) ∧ ∃ n, w' = w.drewN n := by
  obtain rfl := hC.1
  have hx : xs.length ≤ 9223372036854775807 := hC.2.1
  go_enter Tryz.func28, Tryz.ntmps28
  go_wp2
  go_loopw [8] (fun i wr => ∃ k n : Nat, k ≤ xs.length ∧ i = .int .i64 k ∧ NotYet xs s k ∧ wr = w.drewN n) (fun i _ => xs.length - (intOf i).toNat)
  case atStart => exact ⟨0, 0, Nat.zero_le _, rfl, ⟨fun j _ h => absurd h (Nat.not_lt_zero _)⟩, rfl⟩
  case round =>
    obtain ⟨k, n, hk, rfl, hN, rfl⟩ := hrel
    have HN := Aside0.mk hN
    clear hN
    by_cases hlt : k < xs.length
    · obtain ⟨a1, rfl, e1⟩ := C1_get hC k hlt
      clear hC
      by_cases hd : s = xs[k]
      · have hb : (s.toList == xs[k].toList) = true := sEq_true.2 hd
        have HD : Aside0 (sIdxI xs s = (k : Int)) := ⟨by unfold sIdxI; rw [sIdx_some k hlt hd HN.out.out]⟩
        clear hd
        go_wp2
        try (go_quiet (fail))
        try go_wp2
        go_ret
        exact ⟨by rw [HD.out]; rfl, _, by first | rfl | exact World.drewN_drewN ..⟩
      · have hb : (s.toList == xs[k].toList) = false := sEq_false.2 hd
        have HD : Aside0 (NotYet xs s (k + 1)) := ⟨⟨fun j hj hjk => by
          rcases Nat.lt_or_ge j k with h | h
          · exact HN.out.out j hj h
          · obtain rfl : j = k := by omega
            exact hd⟩⟩
        clear hd
        go_wp2
        try (go_quiet (fail))
        try go_wp2
        go_roundw
        case rel => exact ⟨k + 1, _, hlt, by go_num, HD.out, by first | rfl | exact World.drewN_drewN ..⟩
        case measure => simp [intOf]; omega
    · have HD : Aside0 (sIdxI xs s = -1) := ⟨by unfold sIdxI; rw [sIdx_none (fun j hj => HN.out.out j hj (by omega))]⟩
      go_wp2
      go_ret
      exact ⟨by rw [HD.out]; rfl, _, rfl⟩
set_option maxHeartbeats 1000000 in
theorem sContains_any (w : World) (A : Option Addr) (n c : Nat) (xs : List ByteArray) (s : ByteArray) (hC : Kd.string.C w A n xs) :
    Calls Tryz.prog 21 #[.slice A n c, .string s] w fun e w' => e = .returned (.bool (sMem s xs)) ∧ ∃ n, w' = w.drewN n := by
  have HM := Aside0.mk (sIdxI_mem xs s)
  go_enter Tryz.func21, Tryz.ntmps21
  go_wp2_with fail
  refine (sIndex_any _ A n c xs s hC).mono ?_
  rintro e w1 ⟨rfl, m, rfl⟩
  clear hC
  generalize sIdxI xs s = q at *
  go_wp2
  go_ret
  exact ⟨by rw [← HM.out]; rfl, _, rfl⟩
set_option maxHeartbeats 1000000 in
theorem equal_str (w : World) (A1 A2 : Option Addr) (n1 c1 n2 c2 : Nat) (xs ys : List (ByteArray)) (h1 : (Kd.string).C w A1 n1 xs) (h2 : (Kd.string).C w A2 n2 ys) :
    Calls Tryz.prog 16 #[.slice A1 n1 c1, .slice A2 n2 c2] w fun e w' => e = .returned (.bool (decide (xs = ys))) ∧ ∃ n, w' = w.drewN n := by
  obtain rfl := h1.1
  obtain rfl := h2.1
  have hx : xs.length ≤ 9223372036854775807 := h1.2.1
  have hy : ys.length ≤ 9223372036854775807 := h2.2.1
  by_cases hl : xs.length = ys.length
  · have hne : ((xs.length : Int) != (ys.length : Int)) = false := by simp [hl]
    have HL := Aside0.mk hl
    clear hl
    go_enter Tryz.func16, Tryz.ntmps16
    go_wp2
    go_loopw [13] (fun i wr => ∃ k n : Nat, k ≤ xs.length ∧ i = .int .i64 k ∧ xs.take k = ys.take k ∧ wr = w.drewN n) (fun i _ => xs.length - (intOf i).toNat)
    case atStart => exact ⟨0, 0, Nat.zero_le _, rfl, rfl, rfl⟩
    case round =>
      obtain ⟨k, n, hk, rfl, he, rfl⟩ := hrel
      have HE := Aside0.mk he
      clear he
      by_cases hlt : k < xs.length
      · have hlt2 : k < ys.length := by have := HL.out; omega
        obtain ⟨a1, rfl, e1⟩ := C1_get h1 k hlt
        obtain ⟨a2, rfl, e2⟩ := C1_get h2 k hlt2
        clear h1 h2
        by_cases hd : xs[k] = ys[k]
        · have hb : (xs[k].toList == ys[k].toList) = true := sEq_true.2 hd
          have HD := Aside0.mk hd
          clear hd
          go_wp2
          go_quiet (fail)
          go_wp2
          go_roundw
          case rel => exact ⟨k + 1, _, hlt, by go_num, take_more hlt hlt2 HE.out HD.out, by first | rfl | exact World.drewN_drewN ..⟩
          case measure => simp [intOf]; omega
        · have hb : (xs[k].toList == ys[k].toList) = false := sEq_false.2 hd
          have HD := Aside0.mk (ne_of_at k hlt hlt2 hd)
          clear hd
          go_wp2
          go_quiet (fail)
          go_wp2
          go_ret
          exact ⟨by rw [decide_eq_false HD.out]; rfl, _, World.drewN_drewN ..⟩
      · obtain rfl : k = xs.length := by omega
        have HD := Aside0.mk (take_ne HL.out HE.out)
        go_wp2
        go_ret
        exact ⟨by simp [HD.out], _, rfl⟩
  · have hne : ((xs.length : Int) != (ys.length : Int)) = true := by simp; omega
    have HN := Aside0.mk (fun e : xs = ys => hl (by rw [e]))
    clear hl
    go_enter Tryz.func16, Tryz.ntmps16
    go_wp2
    go_ret
    exact ⟨by rw [decide_eq_false HN.out]; rfl, 0, rfl⟩

/-- Are all of some texts short, and are there not too many? -/
def fits2 (xs : List ByteArray) : Bool := decide (xs.length ≤ 2147483647) && xs.all fun s => decide (s.size ≤ 2147483647)
structure FitsTo (xs : List ByteArray) (k : Nat) : Prop where
  out : ∀ j, (hj : j < xs.length) → j < k → xs[j].size ≤ 2147483647
theorem fits2_true {xs : List ByteArray} (h1 : xs.length ≤ 2147483647) (h : ∀ k, (hk : k < xs.length) → xs[k].size ≤ 2147483647) : fits2 xs = true := by
  unfold fits2
  rw [decide_eq_true h1, Bool.true_and, List.all_eq_true]
  intro x hx
  obtain ⟨k, hk, rfl⟩ := List.getElem_of_mem hx
  exact decide_eq_true (h k hk)
theorem fits2_false {xs : List ByteArray} {k : Nat} (hk : k < xs.length) (h : 2147483647 < xs[k].size) : fits2 xs = false := by
  unfold fits2
  rw [Bool.and_eq_false_iff]
  right
  rw [Bool.eq_false_iff]
  intro ha
  have := List.all_eq_true.1 ha _ (List.getElem_mem hk)
  simp at this
  omega
set_option maxHeartbeats 1000000 in
theorem fits2_any (w : World) (A : Option Addr) (n c : Nat) (xs : List ByteArray) (hC : Kd.string.C w A n xs) :
    Calls Tryz.prog 27 #[.slice A n c] w fun e w' => e = .returned (.bool (fits2 xs)) ∧ w = w' := by
  obtain rfl := hC.1
  have hx : xs.length ≤ 9223372036854775807 := hC.2.1
  by_cases hl : 2147483647 < xs.length
  · have HF : Aside0 (fits2 xs = false) := ⟨by unfold fits2; rw [decide_eq_false (by omega)]; rfl⟩
    clear hC
    go_enter Tryz.func27, Tryz.ntmps27
    go_wp2
    go_ret
    exact ⟨by rw [HF.out]; rfl, rfl⟩
  · have hl' : xs.length ≤ 2147483647 := by omega
    go_enter Tryz.func27, Tryz.ntmps27
    go_wp2
    go_loop [10] (fun i => ∃ k : Nat, k ≤ xs.length ∧ i = .int .i64 k ∧ FitsTo xs k) (fun i => xs.length - (intOf i).toNat)
    case atStart => exact ⟨0, Nat.zero_le _, rfl, ⟨fun j _ h => absurd h (Nat.not_lt_zero _)⟩⟩
    case round =>
      obtain ⟨k, hk, rfl, hT⟩ := hrel
      by_cases hlt : k < xs.length
      · obtain ⟨a1, rfl, e1⟩ := C1_get hC k hlt
        clear hC
        by_cases h2 : 2147483647 < xs[k].size
        · have HF := Aside0.mk (fits2_false hlt h2)
          go_wp2
          go_ret
          exact ⟨by rw [HF.out]; rfl, rfl⟩
        · have h3 : xs[k].size ≤ 2147483647 := by omega
          have HT : Aside0 (FitsTo xs (k + 1)) := ⟨⟨fun j hj hjk => by
            rcases Nat.lt_or_ge j k with h | h
            · exact hT.out j hj h
            · obtain rfl : j = k := by omega
              exact h3⟩⟩
          clear hT
          go_wp2
          go_round
          case rel => exact ⟨k + 1, hlt, by go_num, HT.out⟩
          case measure => simp [intOf]; omega
      · have HF := Aside0.mk (fits2_true hl' (fun j hj => hT.out j hj (by omega)))
        clear hT hC
        go_wp2
        go_ret
        exact ⟨by rw [HF.out]; rfl, rfl⟩
end Go.Proofs.YtldbelghobohiaaGreat
