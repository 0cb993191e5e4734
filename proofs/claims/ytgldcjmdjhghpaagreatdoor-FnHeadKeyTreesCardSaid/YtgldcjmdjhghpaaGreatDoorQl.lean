/-
  The numbers by which the reference chooses how a text is written; blanks come to an end. Plain numbers, no program in sight.
  How the reference writes texts and numbers, by a state: plain. No program in sight.
-/
import Derived.Test.YtgldcjmdjhghpaaGreatDoorQa
import Derived.Test.YtgldcjmdjhghpaaGreatDoorQk
namespace Go.Proofs.YtgldcjmdjhghpaaGreatDoor
set_option linter.unusedVariables false
set_option linter.unusedSimpArgs false
def nxt (x : Nat) : Nat := (x * 6364136223846793005 + 1442695040888963407) % 18446744073709551616
/-- A number from 0 to n - 1, out of the state behind a step. -/
def dr (x n : Nat) : Nat := nxt x / 8589934592 % n
def iter (f : Nat → Nat) : Nat → Nat → Nat
  | 0, z => z
  | k + 1, z => iter f k (f z)
theorem iter_zero (f : Nat → Nat) (z : Nat) : iter f 0 z = z := rfl
theorem iter_succ (f : Nat → Nat) (k z : Nat) : iter f (k + 1) z = iter f k (f z) := rfl
theorem iter_add (f : Nat → Nat) (a b z : Nat) : iter f (a + b) z = iter f b (iter f a z) := by
  induction a generalizing z with
  | zero => rw [Nat.zero_add, iter_zero]
  | succ a ih => rw [Nat.succ_add, iter_succ, iter_succ]; exact ih (f z)
theorem iter_shift (f : Nat → Nat) (k z : Nat) : iter (fun y => f (f y)) k (f z) = f (iter (fun y => f (f y)) k z) := by
  induction k generalizing z with
  | zero => rfl
  | succ k ih => rw [iter_succ, iter_succ]; exact ih (f (f z))
section
variable (M : Nat)
def stepA (a c z : Nat) : Nat := (z * a + c) % M
def pw (a c : Nat) : Nat → Nat × Nat
  | 0 => (a, c)
  | j + 1 => ((pw a c j).1 * (pw a c j).1 % M, ((pw a c j).2 * (pw a c j).1 + (pw a c j).2) % M)
theorem affine_twice (a c z : Nat) : stepA M a c (stepA M a c z) = stepA M (a * a % M) ((c * a + c) % M) z := by
  unfold stepA
  have e1 : ((z * a + c) % M * a + c) % M = ((z * a + c) * a + c) % M := by
    rw [Nat.add_mod, Nat.mod_mul_mod, ← Nat.add_mod]
  have e2 : (z * (a * a % M) + (c * a + c) % M) % M = (z * (a * a) + (c * a + c)) % M := by
    rw [Nat.add_mod, Nat.mul_mod_mod, Nat.mod_mod, ← Nat.add_mod]
  rw [e1, e2]
  congr 1
  rw [Nat.add_mul, Nat.mul_assoc, Nat.add_assoc]
theorem iter_pw (a c j z : Nat) : iter (stepA M a c) (2 ^ j) z = stepA M (pw M a c j).1 (pw M a c j).2 z := by
  induction j generalizing z with
  | zero => rw [Nat.pow_zero, iter_succ, iter_zero, pw]
  | succ j ih => rw [Nat.pow_succ, Nat.mul_two, iter_add, ih, ih, affine_twice, pw]
theorem two_gen (N a c x : Nat) (hd : M ∣ N) : ((x * a + c) % N * a + c) % N % M = stepA M (a * a % M) ((c * a + c) % M) (x % M) := by
  rw [Nat.mod_mod_of_dvd _ hd]
  have e1 : ((x * a + c) % N * a + c) % M = ((x * a + c) * a + c) % M := by
    rw [Nat.add_mod, Nat.mul_mod, Nat.mod_mod_of_dvd _ hd, ← Nat.mul_mod, ← Nat.add_mod]
  rw [e1, ← affine_twice]
  unfold stepA
  have e3 : ((x % M * a + c) % M) = (x * a + c) % M := by rw [Nat.add_mod, Nat.mod_mul_mod, ← Nat.add_mod]
  rw [e3]
  have e4 : ((x * a + c) % M * a + c) % M = ((x * a + c) * a + c) % M := by rw [Nat.add_mod, Nat.mod_mul_mod, ← Nat.add_mod]
  rw [e4]
theorem low_bits (f : Nat → Nat) (a c : Nat) (hf : ∀ x, f x % M = stepA M a c (x % M)) (k x : Nat) : iter f k x % M = iter (stepA M a c) k (x % M) := by
  induction k generalizing x with
  | zero => rfl
  | succ k ih => rw [iter_succ, iter_succ, ih, hf]
/-- Three numbers, each as far behind the one ahead of it, are not all small. -/
theorem no_stay (H z z1 z2 a c : Nat) (hM : M = 4 * H) (h1 : z1 = stepA M a c z) (h2 : z2 = stepA M a c z1) (hz : z < H) (hz1 : z1 < H) (hz2 : z2 < H)
    (ha : (a - 1) * (a - 1) % M = 0) (hc : (a - 1) * c % M = 2 * H) (ha1 : 1 ≤ a) : False := by
  obtain ⟨b, rfl⟩ : ∃ b, a = b + 1 := ⟨a - 1, by omega⟩
  rw [Nat.add_sub_cancel] at ha hc
  unfold stepA at h1 h2
  obtain ⟨q, hq⟩ : ∃ q, z * (b + 1) + c = M * q + z1 := ⟨(z * (b + 1) + c) / M, by rw [h1]; exact (Nat.div_add_mod _ _).symm⟩
  obtain ⟨q2, hq2⟩ : ∃ q2, z1 * (b + 1) + c = M * q2 + z2 := ⟨(z1 * (b + 1) + c) / M, by rw [h2]; exact (Nat.div_add_mod _ _).symm⟩
  obtain ⟨k, hk⟩ : ∃ k, b * b = M * k := ⟨b * b / M, by have := Nat.div_add_mod (b * b) M; omega⟩
  obtain ⟨k2, hk2⟩ : ∃ k2, b * c = M * k2 + 2 * H := ⟨b * c / M, by have := Nat.div_add_mod (b * c) M; omega⟩
  clear h1 h2 ha hc
  have e1 : (z : Int) * b + z + c = M * q + z1 := by
    have : ((z * (b + 1) + c : Nat) : Int) = ((M * q + z1 : Nat) : Int) := by rw [hq]
    rw [Nat.mul_add, Nat.mul_one] at this
    simpa only [Int.natCast_add, Int.natCast_mul] using this
  have e2 : (z1 : Int) * b + z1 + c = M * q2 + z2 := by
    have : ((z1 * (b + 1) + c : Nat) : Int) = ((M * q2 + z2 : Nat) : Int) := by rw [hq2]
    rw [Nat.mul_add, Nat.mul_one] at this
    simpa only [Int.natCast_add, Int.natCast_mul] using this
  have e4 : (b : Int) * b = M * k := by
    have : ((b * b : Nat) : Int) = ((M * k : Nat) : Int) := by rw [hk]
    simpa only [Int.natCast_mul] using this
  have e5 : (b : Int) * c = M * k2 + 2 * H := by
    have : ((b * c : Nat) : Int) = ((M * k2 + 2 * H : Nat) : Int) := by rw [hk2]
    simpa using this
  -- b times the first line
  have e6 : (b : Int) * (z * b + z + c) = b * (M * q + z1) := by rw [e1]
  have e7 : (b : Int) * (z * b) = M * (z * k) := by
    rw [← Int.mul_assoc, Int.mul_comm (b : Int) z, Int.mul_assoc, e4, ← Int.mul_assoc, Int.mul_comm (z : Int) M, Int.mul_assoc]
  have e8 : (b : Int) * (M * q) = M * (b * q) := by rw [← Int.mul_assoc, Int.mul_comm (b : Int) M, Int.mul_assoc]
  rw [Int.mul_add, Int.mul_add, Int.mul_add, e7, e8, e5] at e6
  -- the sum of the three is 2 H and a multiple of M
  have e9 : (z2 : Int) + z - 2 * z1 = 2 * H + M * (z * k + k2 - b * q - q2 + q) := by
    rw [Int.mul_comm (z1 : Int) b] at e2
    rw [Int.mul_comm (z : Int) b] at e1
    have d1 : (M : Int) * (z * k + k2 - b * q - q2 + q) = M * (z * k) + M * k2 - M * (b * q) - M * q2 + M * q := by
      simp only [Int.mul_add, Int.mul_sub]
    rw [d1]
    generalize (M : Int) * (z * k) = t1 at e6 ⊢
    generalize (M : Int) * (b * q) = t2 at e6 ⊢
    generalize (M : Int) * k2 = t3 at e6 ⊢
    generalize (M : Int) * q2 = t4 at e2 ⊢
    generalize (M : Int) * q = t5 at e1 ⊢
    generalize (b : Int) * z = t6 at e1 e6
    generalize (b : Int) * z1 = t7 at e2 e6
    omega
  generalize ((z : Int) * k + k2 - b * q - q2 + q) = y at e9
  subst hM
  have : ((4 * H : Nat) : Int) * y = 4 * (H * y) := by rw [Int.natCast_mul, Int.mul_assoc]; rfl
  rw [this] at e9
  -- y is neither negative nor not
  rcases (show y < 0 ∨ 0 ≤ y by omega) with hy | hy
  · have : (H : Int) * y ≤ -H := by
      have := Int.mul_le_mul_of_nonneg_left (show y ≤ -1 by omega) (show (0 : Int) ≤ H by omega)
      simpa using this
    generalize (H : Int) * y = hy2 at *
    omega
  · have : (0 : Int) ≤ H * y := Int.mul_nonneg (by omega) hy
    generalize (H : Int) * y = hy2 at *
    omega
end
theorem two_steps (x : Nat) : nxt (nxt x) % 34359738368 = stepA 34359738368 (6364136223846793005 * 6364136223846793005 % 34359738368) ((1442695040888963407 * 6364136223846793005 + 1442695040888963407) % 34359738368) (x % 34359738368) := by
  unfold nxt
  exact two_gen 34359738368 18446744073709551616 6364136223846793005 1442695040888963407 x ⟨536870912, by decide⟩
def cA : Nat := 6364136223846793005 * 6364136223846793005 % 34359738368
def cC : Nat := (1442695040888963407 * 6364136223846793005 + 1442695040888963407) % 34359738368
theorem pw15_ok : ((pw 34359738368 cA cC 15).1 - 1) * ((pw 34359738368 cA cC 15).1 - 1) % 34359738368 = 0 ∧ ((pw 34359738368 cA cC 15).1 - 1) * (pw 34359738368 cA cC 15).2 % 34359738368 = 2 * 8589934592 ∧ 1 ≤ (pw 34359738368 cA cC 15).1 := by decide +kernel
theorem stop_gen (f : Nat → Nat) (M H a c : Nat) (hM : M = 4 * H) (hf : ∀ x, f (f x) % M = stepA M a c (x % M)) (K j : Nat) (hK : K = 2 ^ j)
    (hp : ((pw M a c j).1 - 1) * ((pw M a c j).1 - 1) % M = 0 ∧ ((pw M a c j).1 - 1) * (pw M a c j).2 % M = 2 * H ∧ 1 ≤ (pw M a c j).1) (x : Nat)
    (hz : ∀ k, k ≤ K + K → f (iter (fun y => f (f y)) k x) % M < H) : False := by
  have hlow : ∀ k, k ≤ K + K → iter (stepA M a c) k (f x % M) < H := fun k hk => by
    rw [← low_bits M (fun y => f (f y)) a c hf, iter_shift]
    exact hz k hk
  have h0 := hlow 0 (by omega)
  have h1 := hlow K (by omega)
  have h2 := hlow (K + K) (Nat.le_refl _)
  have e1 := iter_pw M a c j (f x % M)
  have e2 := iter_pw M a c j (iter (stepA M a c) K (f x % M))
  rw [← hK] at e1 e2
  rw [← iter_add] at e2
  rw [iter_zero] at h0
  exact no_stay M H _ _ _ _ _ hM e1 e2 h0 h1 h2 hp.1 hp.2.1 hp.2.2
def NB : Nat := 32768 + 32768
/-- Among so many numbers that are drawn one behind the other, each of two, one is not 0. -/
theorem some_stop (x : Nat) : ∃ k, k ≤ NB ∧ dr (iter (fun y => nxt (nxt y)) k x) 4 ≠ 0 := by
  refine Classical.byContradiction fun hn => ?_
  refine stop_gen nxt 34359738368 8589934592 cA cC (by decide) two_steps 32768 15 (by decide) pw15_ok x (fun k hk => ?_)
  have hz : dr (iter (fun y => nxt (nxt y)) k x) 4 = 0 := Classical.byContradiction fun h => hn ⟨k, hk, h⟩
  unfold dr at hz
  generalize nxt (iter (fun y => nxt (nxt y)) k x) = y at hz
  omega
/-- A blank by its number. -/
def wsAt (k : Nat) : UInt8 := if k = 0 then 32 else if k = 1 then 9 else if k = 2 then 10 else 13
/-- Blanks, and the state behind them. -/
def blankF : Nat → Nat → Bs × Nat
  | 0, x => ([], x)
  | k + 1, x => if x = 0 then ([], x) else if dr x 4 = 0 then (wsAt (dr (nxt x) 4) :: (blankF k (nxt (nxt x))).1, (blankF k (nxt (nxt x))).2) else ([], nxt x)
/-- The blanks come to an end in so many rounds. -/
def Ends : Nat → Nat → Prop
  | 0, _ => False
  | k + 1, x => x = 0 ∨ dr x 4 ≠ 0 ∨ Ends k (nxt (nxt x))
theorem ends_of (k : Nat) : ∀ x, dr (iter (fun y => nxt (nxt y)) k x) 4 ≠ 0 → ∀ m, k < m → Ends m x := by
  induction k with
  | zero =>
    intro x h m hm
    obtain ⟨m, rfl⟩ : ∃ j, m = j + 1 := ⟨m - 1, by omega⟩
    rw [iter_zero] at h
    exact .inr (.inl h)
  | succ k ih =>
    intro x h m hm
    obtain ⟨m, rfl⟩ : ∃ j, m = j + 1 := ⟨m - 1, by omega⟩
    rw [iter_succ] at h
    exact .inr (.inr (ih _ h m (by omega)))
theorem ends_any (x : Nat) : Ends (NB + 1) x := by
  obtain ⟨k, hk, h⟩ := some_stop x
  exact ends_of k x h _ (by omega)
/-- The blanks that a state makes. -/
def blk (x : Nat) : Bs × Nat := blankF (NB + 1) x
theorem wsAt_ws (k : Nat) : isWS (wsAt k) = true := by
  unfold wsAt
  split
  · rfl
  · split
    · rfl
    · split <;> rfl
theorem blankF_ws (k : Nat) : ∀ x, (∀ c ∈ (blankF k x).1, isWS c = true) ∧ (blankF k x).1.length ≤ k := by
  induction k with
  | zero => intro x; exact ⟨(fun c h => by cases h), Nat.le_refl _⟩
  | succ k ih =>
    intro x
    rw [blankF]
    split
    · exact ⟨(fun c h => by cases h), Nat.zero_le _⟩
    · split
      · obtain ⟨h1, h2⟩ := ih (nxt (nxt x))
        refine ⟨fun c h => ?_, by simp; omega⟩
        rcases List.mem_cons.1 h with rfl | h
        · exact wsAt_ws _
        · exact h1 c h
      · exact ⟨(fun c h => by cases h), Nat.zero_le _⟩
theorem nxt_lt (x : Nat) : nxt x < 18446744073709551616 := Nat.mod_lt _ (by decide)
theorem blankF_lt (k : Nat) : ∀ x, x < 18446744073709551616 → (blankF k x).2 < 18446744073709551616 := by
  induction k with
  | zero => intro x h; exact h
  | succ k ih =>
    intro x h
    rw [blankF]
    split
    · exact h
    · split
      · exact ih _ (nxt_lt _)
      · exact nxt_lt _
end Go.Proofs.YtgldcjmdjhghpaaGreatDoor
namespace Go.Proofs.YtgldcjmdjhghpaaGreatDoor
open Go.RowKit Go.Proofs.YtgldcjmdjhghpaaGreatDoorW.PrintWords Go.ChangeShapes Go.WideShapes
set_option linter.unusedVariables false
set_option linter.unusedSimpArgs false
/-- The letter of a short escape. -/
def shortC (c : Nat) : Option UInt8 :=
  if c = 34 then some 34 else if c = 92 then some 92 else if c = 47 then some 47 else if c = 8 then some 98 else if c = 9 then some 116 else if c = 10 then some 110 else if c = 12 then some 102 else if c = 13 then some 114 else none
def mustC (c : Nat) : Bool := decide (c < 32) || decide (c = 34) || decide (c = 92)
/-- The state behind the question whether a character is escaped, and the answer. -/
def askC (c x : Nat) : Bool × Nat := if mustC c then (true, x) else if x = 0 then (false, 0) else (decide (dr x 5 = 0), nxt x)
/-- An escaped character. -/
def escC (c x : Nat) : Bs × Nat :=
  match shortC c with
  | some l => if x = 0 then ([92, l], 0) else if dr x 2 = 0 then ([92, l], nxt x) else (escN c, nxt x)
  | none => (escN c, x)
/-- One character of a text, as a state writes it, and the state behind. -/
def charF (c x : Nat) : Bs × Nat := if (askC c x).1 = true then escC c (askC c x).2 else (utf8 c, (askC c x).2)
/-- A text's insides, as a state writes them, and the state behind. -/
def textF : List Nat → Nat → Bs × Nat
  | [], x => ([], x)
  | c :: rs, x => ((charF c x).1 ++ (textF rs (charF c x).2).1, (textF rs (charF c x).2).2)
/-- A character that may stand in a text. -/
def RuneOk (c : Nat) : Prop := c < 0x110000 ∧ isSur c = false
def encR (rs : List Nat) : Bs := rs.flatMap utf8
theorem shortC_is {c : Nat} {l : UInt8} (h : shortC c = some l) : ∃ o : UInt8, utf8 c = [o] ∧ ((l = 34 ∧ o = 34) ∨ (l = 92 ∧ o = 92) ∨ (l = 47 ∧ o = 47) ∨ (l = 98 ∧ o = 8) ∨ (l = 102 ∧ o = 12) ∨ (l = 110 ∧ o = 10) ∨ (l = 114 ∧ o = 13) ∨ (l = 116 ∧ o = 9)) := by
  unfold shortC at h
  by_cases h1 : c = 34
  · subst h1; rw [if_pos rfl] at h; injection h with h; subst h; exact ⟨34, rfl, by simp⟩
  rw [if_neg h1] at h
  by_cases h1 : c = 92
  · subst h1; rw [if_pos rfl] at h; injection h with h; subst h; exact ⟨92, rfl, by simp⟩
  rw [if_neg h1] at h
  by_cases h1 : c = 47
  · subst h1; rw [if_pos rfl] at h; injection h with h; subst h; exact ⟨47, rfl, by simp⟩
  rw [if_neg h1] at h
  by_cases h1 : c = 8
  · subst h1; rw [if_pos rfl] at h; injection h with h; subst h; exact ⟨8, rfl, by simp⟩
  rw [if_neg h1] at h
  by_cases h1 : c = 9
  · subst h1; rw [if_pos rfl] at h; injection h with h; subst h; exact ⟨9, rfl, by simp⟩
  rw [if_neg h1] at h
  by_cases h1 : c = 10
  · subst h1; rw [if_pos rfl] at h; injection h with h; subst h; exact ⟨10, rfl, by simp⟩
  rw [if_neg h1] at h
  by_cases h1 : c = 12
  · subst h1; rw [if_pos rfl] at h; injection h with h; subst h; exact ⟨12, rfl, by simp⟩
  rw [if_neg h1] at h
  by_cases h1 : c = 13
  · subst h1; rw [if_pos rfl] at h; injection h with h; subst h; exact ⟨13, rfl, by simp⟩
  rw [if_neg h1] at h
  cases h
theorem escC_pieces {c : Nat} (hc : RuneOk c) (x : Nat) {r v : Bs} (hp : Pieces r v) : Pieces ((escC c x).1 ++ r) (utf8 c ++ v) := by
  unfold escC
  cases hs : shortC c with
  | none => exact escN_pieces hc.1 hc.2 hp
  | some l =>
    obtain ⟨o, ho, hlo⟩ := shortC_is hs
    have h1 : Pieces (92 :: l :: r) (o :: v) := .one l o hlo hp
    have h2 : Pieces ([92, l] ++ r) (utf8 c ++ v) := by rw [ho]; exact h1
    simp only
    split
    · exact h2
    · split
      · exact h2
      · exact escN_pieces hc.1 hc.2 hp
theorem charF_pieces {c : Nat} (hc : RuneOk c) (x : Nat) {r v : Bs} (hp : Pieces r v) : Pieces ((charF c x).1 ++ r) (utf8 c ++ v) := by
  unfold charF
  by_cases h : (askC c x).1 = true
  · rw [if_pos h]
    exact escC_pieces hc _ hp
  · rw [if_neg h]
    have hm : mustC c = false := by
      cases hm : mustC c with
      | false => rfl
      | true => exact absurd (by unfold askC; rw [hm]; rfl) h
    unfold mustC at hm
    simp only [Bool.or_eq_false_iff, decide_eq_false_iff_not] at hm
    exact plain_pieces hm.1.2 hm.2 hp
theorem textF_pieces {rs : List Nat} (h : ∀ c ∈ rs, RuneOk c) : ∀ x, Pieces (textF rs x).1 (encR rs) := by
  induction rs with
  | nil => intro x; exact .nil
  | cons c rs ih =>
    intro x
    exact charF_pieces (h c (List.mem_cons_self ..)) x (ih (fun d hd => h d (List.mem_cons_of_mem _ hd)) _)
theorem utf8_bds (c : Nat) : 1 ≤ (utf8 c).length ∧ (utf8 c).length ≤ 4 := by
  unfold utf8
  split
  · simp
  · split
    · simp
    · split
      · simp
      · split <;> simp
theorem charF_len (c x : Nat) : (charF c x).1.length ≤ 12 := by
  have h1 := (utf8_bds c).2
  have h2 : (escN c).length ≤ 12 := by unfold escN; split <;> simp [hexE, hex4]
  unfold charF
  split
  · unfold escC
    split
    · split
      · simp
      · split
        · simp
        · exact h2
    · exact h2
  · show (utf8 c).length ≤ 12
    omega
theorem textF_len (rs : List Nat) : ∀ x, (textF rs x).1.length ≤ 12 * rs.length := by
  induction rs with
  | nil => intro x; exact Nat.le_refl _
  | cons c rs ih =>
    intro x
    have h1 := charF_len c x
    have h2 := ih (charF c x).2
    show ((charF c x).1 ++ (textF rs (charF c x).2).1).length ≤ _
    rw [List.length_append, List.length_cons]
    omega
theorem encR_len (rs : List Nat) : rs.length ≤ (encR rs).length := by
  induction rs with
  | nil => exact Nat.le_refl _
  | cons c rs ih =>
    have := (utf8_bds c).1
    show rs.length + 1 ≤ (utf8 c ++ encR rs).length
    rw [List.length_append]
    omega
/-- A number in decimal digits, with fuel. -/
def digK : Nat → Nat → Bs
  | 0, _ => []
  | k + 1, n => if n < 10 then [UInt8.ofNat (48 + n)] else digK k (n / 10) ++ [UInt8.ofNat (48 + n % 10)]
def digF (n : Nat) : Bs := digK 20 n
theorem digK_all (k : Nat) : ∀ n, ∀ c ∈ digK k n, (48 : UInt8) ≤ c ∧ c ≤ 57 := by
  have one : ∀ m, m < 10 → (48 : UInt8) ≤ UInt8.ofNat (48 + m) ∧ UInt8.ofNat (48 + m) ≤ 57 := fun m hm => by
    rw [UInt8.le_iff_toNat_le, UInt8.le_iff_toNat_le]
    have e : (UInt8.ofNat (48 + m)).toNat = 48 + m := by simp; omega
    rw [e]
    exact ⟨by show 48 ≤ _; omega, by show _ ≤ 57; omega⟩
  induction k with
  | zero => intro n c h; cases h
  | succ k ih =>
    intro n c h
    rw [digK] at h
    by_cases hn : n < 10
    · rw [if_pos hn, List.mem_singleton] at h
      subst h
      exact one n hn
    · rw [if_neg hn, List.mem_append, List.mem_singleton] at h
      rcases h with h | rfl
      · exact ih _ c h
      · exact one _ (Nat.mod_lt _ (by decide))
theorem digF_digits (n : Nat) : Digits (digF n) := by
  refine ⟨?_, digK_all 20 n⟩
  unfold digF
  rw [digK]
  split <;> simp
theorem digF_len (n : Nat) : (digF n).length ≤ 20 := by
  have : ∀ k n, (digK k n).length ≤ k := by
    intro k
    induction k with
    | zero => intro n; exact Nat.le_refl _
    | succ k ih =>
      intro n
      rw [digK]
      split
      · simp
      · rw [List.length_append]
        have := ih (n / 10)
        simp
        omega
  exact this 20 n
theorem unesc_plain {s : Bs} (h : (92 : UInt8) ∉ s) : unesc s = s := unescT_no h
theorem find_eq {α : Type} {p q : α → Bool} {l : List α} (h : ∀ x ∈ l, p x = q x) : l.find? p = l.find? q := by
  induction l with
  | nil => rfl
  | cons a l ih =>
    rw [List.find?_cons, List.find?_cons, h a (List.mem_cons_self ..), ih (fun x hx => h x (List.mem_cons_of_mem _ hx))]
/-- Where names are different, a name finds the field that it names. -/
theorem oGet_name {kvs : List (Bs × JV)} (hn : (kvs.map (fun p => unesc p.1)).Nodup) (key : Bs) : oGet kvs key = (kvs.find? (fun p => unesc p.1 == key)).map (·.2) := by
  unfold oGet
  by_cases hk : key.all noBack = true
  · rw [if_pos hk]
    have hk2 : (92 : UInt8) ∉ key := fun hm => by
      have := List.all_eq_true.1 hk 92 hm
      cases this
    cases hf : kvs.find? (fun p => p.1 == key) with
    | none => rfl
    | some p =>
      have hp : p.1 = key := by simpa using List.find?_some hf
      have hpm := List.mem_of_find?_eq_some hf
      have hu : unesc p.1 = key := by rw [hp, unesc_plain hk2]
      show some p.2 = _
      have : kvs.find? (fun q => unesc q.1 == key) = some p := by
        clear hf
        induction kvs with
        | nil => cases hpm
        | cons a l ih =>
          rw [List.map_cons, List.nodup_cons] at hn
          rw [List.find?_cons]
          rcases List.mem_cons.1 hpm with rfl | hm
          · rw [show (unesc p.1 == key) = true by rw [hu]; simp]
          · rw [show (unesc a.1 == key) = false by
              rw [beq_eq_false_iff_ne]
              intro e
              exact hn.1 (by rw [e, ← hu]; exact List.mem_map_of_mem (f := fun p : Bs × JV => unesc p.1) hm)]
            exact ih hn.2 hm
      rw [this]
      rfl
  · rw [if_neg hk]
end Go.Proofs.YtgldcjmdjhghpaaGreatDoor
