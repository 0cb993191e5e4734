/-
  What wrapping and opening compute, and that they take each other back. No program in sight.
-/
import Derived.Test.YthbdlghkfibbaaaWr2
import Derived.Test.YthbdlghkfibbaaaWr3
namespace Go.Proofs.Ythbdlghkfibbaaa
open Go.RowKit Go.Proofs.YthbdlghkfibbaaaW.PrintWords Go.Lib
set_option linter.unusedVariables false
set_option linter.unusedSimpArgs false
theorem beB_len (n : Nat) : (beB n).length = 8 := rfl
theorem beB_beN {l : List UInt8} (h : l.length = 8) : beB (beN l) = l := by
  match l, h with
  | [x0, x1, x2, x3, x4, x5, x6, x7], _ =>
  have b0 := x0.toNat_lt
  have b1 := x1.toNat_lt
  have b2 := x2.toNat_lt
  have b3 := x3.toNat_lt
  have b4 := x4.toNat_lt
  have b5 := x5.toNat_lt
  have b6 := x6.toNat_lt
  have b7 := x7.toNat_lt
  have e : ∀ (k : Nat) (x : UInt8), k = x.toNat → UInt8.ofNat k = x := fun k x h => by rw [h]; exact UInt8.ofNat_toNat
  unfold beN beB
  simp only [List.foldl_cons, List.foldl_nil]
  rw [e _ x0 (by omega), e _ x1 (by omega), e _ x2 (by omega), e _ x3 (by omega), e _ x4 (by omega), e _ x5 (by omega), e _ x6 (by omega), e _ x7 (by omega)]
theorem u64_beN {l : List UInt8} (h : l.length = 8) : (UInt64.ofNat (beN l)).toNat = beN l := UInt64.toNat_ofNat_of_lt' (beN8 h)
theorem beB_word {l : List UInt8} (h : l.length = 8) : beB (UInt64.ofNat (beN l)).toNat = l := by rw [u64_beN h, beB_beN h]
theorem word_beB (x : UInt64) : UInt64.ofNat (beN (beB x.toNat)) = x := by rw [beN_beB _ x.toNat_lt, UInt64.ofNat_toNat]
theorem blockOf_len (p : UInt64 × UInt64) : (blockOf p).length = 16 := rfl
theorem halvesOf_blockOf (p : UInt64 × UInt64) : halvesOf (blockOf p) = p := by
  have h1 : (blockOf p).take 8 = beB p.1.toNat := rfl
  have h2 : (blockOf p).drop 8 = beB p.2.toNat := rfl
  unfold halvesOf
  rw [h1, h2, word_beB, word_beB]
theorem mixB_blockOf (s : UInt64) (p : UInt64 × UInt64) : mixB s (blockOf p) = blockOf (mixU s p) := by unfold mixB; rw [halvesOf_blockOf]
theorem backB_blockOf (s : UInt64) (p : UInt64 × UInt64) : backB s (blockOf p) = blockOf (backU s p) := by unfold backB; rw [halvesOf_blockOf]
theorem byte_xor (a b k : Nat) : UInt8.ofNat (a / 2 ^ k % 256) ^^^ UInt8.ofNat (b / 2 ^ k % 256) = UInt8.ofNat ((a ^^^ b) / 2 ^ k % 256) := by
  apply UInt8.toNat_inj.1
  rw [UInt8.toNat_xor, UInt8.toNat_ofNat_of_lt' (show a / 2 ^ k % 256 < 256 by omega), UInt8.toNat_ofNat_of_lt' (show b / 2 ^ k % 256 < 256 by omega), UInt8.toNat_ofNat_of_lt' (show (a ^^^ b) / 2 ^ k % 256 < 256 by omega)]
  rw [← Nat.shiftRight_eq_div_pow, ← Nat.shiftRight_eq_div_pow, ← Nat.shiftRight_eq_div_pow, Nat.shiftRight_xor_distrib]
  exact (Nat.xor_mod_two_pow (n := 8)).symm
theorem beB_xor (a b : Nat) : List.zipWith (fun x y : UInt8 => x ^^^ y) (beB a) (beB b) = beB (a ^^^ b) := by
  have h0 := byte_xor a b 0
  simp only [Nat.pow_zero, Nat.div_one] at h0
  unfold beB
  simp only [List.zipWith_cons_cons, List.zipWith_nil_left]
  rw [h0, show (256 : Nat) = 2 ^ 8 from rfl]
  exact congr (congrArg List.cons (byte_xor a b 56)) (congr (congrArg List.cons (byte_xor a b 48)) (congr (congrArg List.cons (byte_xor a b 40)) (congr (congrArg List.cons (byte_xor a b 32)) (congr (congrArg List.cons (byte_xor a b 24)) (congr (congrArg List.cons (byte_xor a b 16)) (congr (congrArg List.cons (byte_xor a b 8)) rfl))))))
def wordsOf (n : Nat) (xs : List UInt8) : List UInt64 := (List.range n).map fun i => UInt64.ofNat (beN ((xs.drop (8 * i)).take 8))
def bytesW (r : List UInt64) : List UInt8 := r.flatMap fun x => beB x.toNat
theorem wordsOf_len (n : Nat) (xs : List UInt8) : (wordsOf n xs).length = n := by simp [wordsOf]
theorem wordsOf_succ (n : Nat) (xs : List UInt8) : wordsOf (n + 1) xs = UInt64.ofNat (beN (xs.take 8)) :: wordsOf n (xs.drop 8) := by
  unfold wordsOf
  rw [List.range_succ_eq_map, List.map_cons, List.map_map]
  refine congr (congrArg List.cons ?_) (List.map_congr_left fun i _ => ?_)
  · rfl
  · show UInt64.ofNat (beN ((xs.drop (8 * (i + 1))).take 8)) = _
    rw [List.drop_drop, show 8 * (i + 1) = 8 + 8 * i by omega]
theorem wordsOf_snoc (n : Nat) (xs : List UInt8) : wordsOf (n + 1) xs = wordsOf n xs ++ [UInt64.ofNat (beN ((xs.drop (8 * n)).take 8))] := by
  unfold wordsOf
  rw [List.range_succ, List.map_append]
  rfl
theorem bytesW_cons (x : UInt64) (r : List UInt64) : bytesW (x :: r) = beB x.toNat ++ bytesW r := rfl
theorem bytesW_len : ∀ r : List UInt64, (bytesW r).length = 8 * r.length
  | [] => rfl
  | x :: r => by rw [bytesW_cons, List.length_append, bytesW_len r, List.length_cons, beB_len]; omega
theorem bytesW_snoc (r : List UInt64) (x : UInt64) : bytesW (r ++ [x]) = bytesW r ++ beB x.toNat := by
  unfold bytesW
  rw [List.flatMap_append]
  simp
theorem bytesW_wordsOf : ∀ (n : Nat) (xs : List UInt8), xs.length = 8 * n → bytesW (wordsOf n xs) = xs
  | 0, xs, h => by rw [List.eq_nil_of_length_eq_zero h]; rfl
  | n + 1, xs, h => by
    rw [wordsOf_succ, bytesW_cons, bytesW_wordsOf n (xs.drop 8) (by rw [List.length_drop]; omega), beB_word (by rw [List.length_take]; omega), List.take_append_drop]
theorem wordsOf_bytesW : ∀ r : List UInt64, wordsOf r.length (bytesW r) = r
  | [] => rfl
  | x :: r => by
    have h1 : (beB x.toNat ++ bytesW r).take 8 = beB x.toNat := List.take_left' rfl
    have h2 : (beB x.toNat ++ bytesW r).drop 8 = bytesW r := List.drop_left' rfl
    rw [List.length_cons, wordsOf_succ, bytesW_cons, h1, h2, wordsOf_bytesW r, word_beB]
/-- A step of wrapping, and back. -/
def wrapR (s : UInt64) (n : Nat) (st : UInt64 × List UInt64) (t : Nat) : UInt64 × List UInt64 :=
  ((mixU s (st.1, st.2.getD (t % n) 0)).1 ^^^ UInt64.ofNat (t + 1), st.2.set (t % n) (mixU s (st.1, st.2.getD (t % n) 0)).2)
def openR (s : UInt64) (n : Nat) (st : UInt64 × List UInt64) (t : Nat) : UInt64 × List UInt64 :=
  ((backU s (st.1 ^^^ UInt64.ofNat (t + 1), st.2.getD (t % n) 0)).1, st.2.set (t % n) (backU s (st.1 ^^^ UInt64.ofNat (t + 1), st.2.getD (t % n) 0)).2)
def wrapN (s : UInt64) (n : Nat) : Nat → UInt64 × List UInt64 → UInt64 × List UInt64
  | 0, st => st
  | k + 1, st => wrapR s n (wrapN s n k st) k
def openN (s : UInt64) (n : Nat) : Nat → UInt64 × List UInt64 → UInt64 × List UInt64
  | 0, st => st
  | k + 1, st => openN s n k (openR s n st k)
theorem wrapR_len (s : UInt64) (n : Nat) (st : UInt64 × List UInt64) (t : Nat) : (wrapR s n st t).2.length = st.2.length := by simp [wrapR]
theorem openR_len (s : UInt64) (n : Nat) (st : UInt64 × List UInt64) (t : Nat) : (openR s n st t).2.length = st.2.length := by simp [openR]
theorem wrapN_len (s : UInt64) (n : Nat) (st : UInt64 × List UInt64) : ∀ k, (wrapN s n k st).2.length = st.2.length
  | 0 => rfl
  | k + 1 => by rw [wrapN, wrapR_len, wrapN_len s n st k]
theorem openN_len (s : UInt64) (n : Nat) : ∀ (k : Nat) (st : UInt64 × List UInt64), (openN s n k st).2.length = st.2.length
  | 0, st => rfl
  | k + 1, st => by rw [openN, openN_len s n k, openR_len]
theorem openR_wrapR (s : UInt64) (n : Nat) (st : UInt64 × List UInt64) (t : Nat) (hn : 0 < n) (hl : st.2.length = n) : openR s n (wrapR s n st t) t = st := by
  have hi : t % n < st.2.length := by rw [hl]; exact Nat.mod_lt _ hn
  obtain ⟨i, hi'⟩ : ∃ i, i = t % n := ⟨_, rfl⟩
  rw [← hi'] at hi
  unfold openR wrapR
  rw [← hi']
  generalize hp : mixU s (st.1, st.2.getD i 0) = p
  simp only [UInt64.xor_assoc, UInt64.xor_self, UInt64.xor_zero]
  have h1 : (st.2.set i p.2).getD i 0 = p.2 := by simp [List.getD_eq_getElem?_getD, hi]
  rw [h1, ← hp, backU_mixU]
  simp only [List.set_set]
  have h2 : st.2.getD i 0 = st.2[i] := by simp [List.getD_eq_getElem?_getD, hi]
  rw [h2, List.set_getElem_self]
theorem openN_wrapN (s : UInt64) (n : Nat) (hn : 0 < n) (st : UInt64 × List UInt64) (hl : st.2.length = n) : ∀ k, openN s n k (wrapN s n k st) = st
  | 0 => rfl
  | k + 1 => by rw [openN, wrapN, openR_wrapR s n _ k hn (by rw [wrapN_len, hl]), openN_wrapN s n hn st hl k]
def wrapOut (s : UInt64) (xs : List UInt8) : List UInt8 :=
  beB (wrapN s (xs.length / 8) (6 * (xs.length / 8)) (ivU, wordsOf (xs.length / 8) xs)).1.toNat ++ bytesW (wrapN s (xs.length / 8) (6 * (xs.length / 8)) (ivU, wordsOf (xs.length / 8) xs)).2
def openSt (s : UInt64) (xs : List UInt8) : UInt64 × List UInt64 :=
  openN s (xs.length / 8 - 1) (6 * (xs.length / 8 - 1)) (UInt64.ofNat (beN (xs.take 8)), wordsOf (xs.length / 8 - 1) (xs.drop 8))
def openOut (s : UInt64) (xs : List UInt8) : List UInt8 := bytesW (openSt s xs).2
theorem wrapOut_len (s : UInt64) (xs : List UInt8) (n : Nat) (h : xs.length = 8 * n) : (wrapOut s xs).length = 8 * (n + 1) := by
  have e : xs.length / 8 = n := by omega
  unfold wrapOut
  rw [List.length_append, bytesW_len, wrapN_len, beB_len]
  show 8 + 8 * (wordsOf _ xs).length = _
  rw [wordsOf_len, e]
  omega
theorem openOut_len (s : UInt64) (xs : List UInt8) (n : Nat) (h : xs.length = 8 * (n + 1)) : (openOut s xs).length = 8 * n := by
  unfold openOut openSt
  rw [bytesW_len, openN_len]
  show 8 * (wordsOf _ _).length = _
  rw [wordsOf_len]
  omega
theorem openSt_wrapOut (s : UInt64) (xs : List UInt8) (n : Nat) (hn : 0 < n) (h : xs.length = 8 * n) : openSt s (wrapOut s xs) = (ivU, wordsOf n xs) := by
  have e : xs.length / 8 = n := by omega
  have e1 : (wrapOut s xs).length / 8 - 1 = n := by rw [wrapOut_len s xs n h]; omega
  unfold openSt
  rw [e1]
  have hl := wrapN_len s n (ivU, wordsOf n xs) (6 * n)
  have hl2 : (ivU, wordsOf n xs).2.length = n := wordsOf_len n xs
  rw [hl2] at hl
  unfold wrapOut
  rw [e]
  generalize hq : wrapN s n (6 * n) (ivU, wordsOf n xs) = q at hl
  have h1 : (beB q.1.toNat ++ bytesW q.2).take 8 = beB q.1.toNat := List.take_left' rfl
  have h2 : (beB q.1.toNat ++ bytesW q.2).drop 8 = bytesW q.2 := List.drop_left' rfl
  rw [h1, h2, word_beB]
  have h3 := wordsOf_bytesW q.2
  rw [hl] at h3
  rw [h3]
  show openN s n (6 * n) q = _
  rw [← hq]
  exact openN_wrapN s n hn _ (wordsOf_len n xs) _
theorem openOut_wrapOut (s : UInt64) (xs : List UInt8) (n : Nat) (hn : 0 < n) (h : xs.length = 8 * n) : openOut s (wrapOut s xs) = xs := by
  unfold openOut
  rw [openSt_wrapOut s xs n hn h]
  exact bytesW_wordsOf n xs h
end Go.Proofs.Ythbdlghkfibbaaa
