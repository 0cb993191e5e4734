/-
  Base64, read: what the letters stand for, and that what was written is read again. No program in sight.
-/
import Derived.Test.YtlncbbmmlhammaaDoorQuant3
namespace Go.Proofs.YtlncbbmmlhammaaDoor
open Go.RowKit Go.Proofs.YtlncbbmmlhammaaDoorW.PrintWords Go.Lib
set_option linter.unusedVariables false
set_option linter.unusedSimpArgs false
theorem dX_at (url : Bool) (k : Nat) (hk : k < 64) : dX url (b64at url k) = UInt8.ofNat k := by
  have h : ∀ u : Bool, (List.range 64).all (fun k => dX u (b64at u k) == UInt8.ofNat k) = true := by decide +kernel
  have := List.all_eq_true.1 (h url) k (List.mem_range.2 hk)
  simpa using this
theorem dX_ok (url : Bool) (k : Nat) (hk : k < 64) : dX url (b64at url k) ≠ 255 := by
  rw [dX_at url k hk]
  intro e
  have := congrArg UInt8.toNat e
  rw [UInt8.toNat_ofNat_of_lt' (show k < 256 by omega)] at this
  have h2 : (255 : UInt8).toNat = 255 := rfl
  omega
theorem dX_61 (url : Bool) : dX url 61 = 255 := by cases url <;> decide +kernel
theorem dX_nl (url : Bool) (c : UInt8) (h : dX url c ≠ 255) : c ≠ 10 ∧ c ≠ 13 := by
  constructor <;> (rintro rfl; exact h (by cases url <;> decide +kernel))
/-- Is a byte a letter? -/
def isL (url : Bool) (c : UInt8) : Bool := dX url c != 255
theorem isL_iff {url : Bool} {c : UInt8} : isL url c = true ↔ dX url c ≠ 255 := by unfold isL; simp
theorem isL_not {url : Bool} {c : UInt8} : isL url c = false ↔ dX url c = 255 := by unfold isL; simp
theorem isL_61 (url : Bool) : isL url 61 = false := isL_not.2 (dX_61 url)
theorem isL_at (url : Bool) (k : Nat) (hk : k < 64) : isL url (b64at url k) = true := isL_iff.2 (dX_ok url k hk)
/-- What a text is read as: letters, and behind them, if it is padded, signs of padding. -/
def decAll (url raw : Bool) : List UInt8 → Option (List UInt8)
  | x :: y :: z :: u :: r =>
    if isL url x && isL url y && isL url z && isL url u then (decAll url raw r).map ([byA (dX url x) (dX url y), byB (dX url y) (dX url z), byC (dX url z) (dX url u)] ++ ·)
    else if !raw && r.isEmpty && isL url x && isL url y && (u == 61) then
      (if isL url z then some [byA (dX url x) (dX url y), byB (dX url y) (dX url z)] else if z == 61 then some [byA (dX url x) (dX url y)] else none)
    else none
  | [x, y, z] => if raw && isL url x && isL url y && isL url z then some [byA (dX url x) (dX url y), byB (dX url y) (dX url z)] else none
  | [x, y] => if raw && isL url x && isL url y then some [byA (dX url x) (dX url y)] else none
  | [x] => none
  | [] => some []
theorem by3 (url : Bool) (x y z : UInt8) : byA (dX url (b64at url (x.toNat / 4))) (dX url (b64at url (x.toNat % 4 * 16 + y.toNat / 16))) = x ∧
    byB (dX url (b64at url (x.toNat % 4 * 16 + y.toNat / 16))) (dX url (b64at url (y.toNat % 16 * 4 + z.toNat / 64))) = y ∧
    byC (dX url (b64at url (y.toNat % 16 * 4 + z.toNat / 64))) (dX url (b64at url (z.toNat % 64))) = z := by
  have hx := x.toNat_lt
  have hy := y.toNat_lt
  have hz := z.toNat_lt
  rw [dX_at _ _ (by omega), dX_at _ _ (by omega), dX_at _ _ (by omega), dX_at _ _ (by omega)]
  unfold byA byB byC
  refine ⟨?_, ?_, ?_⟩ <;> (apply UInt8.toNat_inj.1; rw [UInt8.toNat_ofNat_of_lt' (by rw [UInt8.toNat_ofNat_of_lt' (show _ < 256 by omega), UInt8.toNat_ofNat_of_lt' (show _ < 256 by omega)]; show _ < 256; omega), UInt8.toNat_ofNat_of_lt' (show _ < 256 by omega), UInt8.toNat_ofNat_of_lt' (show _ < 256 by omega)]; omega)
theorem by2 (url : Bool) (x y : UInt8) : byA (dX url (b64at url (x.toNat / 4))) (dX url (b64at url (x.toNat % 4 * 16 + y.toNat / 16))) = x ∧
    byB (dX url (b64at url (x.toNat % 4 * 16 + y.toNat / 16))) (dX url (b64at url (y.toNat % 16 * 4))) = y := by
  have h := by3 url x y 0
  simp only [show (0 : UInt8).toNat / 64 = 0 from rfl, Nat.add_zero] at h
  exact ⟨h.1, h.2.1⟩
theorem by1 (url : Bool) (x : UInt8) : byA (dX url (b64at url (x.toNat / 4))) (dX url (b64at url (x.toNat % 4 * 16))) = x := by
  have h := by2 url x 0
  simp only [show (0 : UInt8).toNat / 16 = 0 from rfl, Nat.add_zero] at h
  exact h.1
theorem isL4 (url : Bool) (x y z : UInt8) : isL url (b64at url (x.toNat / 4)) = true ∧ isL url (b64at url (x.toNat % 4 * 16 + y.toNat / 16)) = true ∧ isL url (b64at url (y.toNat % 16 * 4 + z.toNat / 64)) = true ∧ isL url (b64at url (z.toNat % 64)) = true ∧
    isL url (b64at url (x.toNat % 4 * 16)) = true ∧ isL url (b64at url (y.toNat % 16 * 4)) = true := by
  have hx := x.toNat_lt
  have hy := y.toNat_lt
  have hz := z.toNat_lt
  refine ⟨isL_at _ _ (by omega), isL_at _ _ (by omega), isL_at _ _ (by omega), isL_at _ _ (by omega), isL_at _ _ (by omega), isL_at _ _ (by omega)⟩
theorem decAll_b64 (url : Bool) : ∀ xs, decAll url true (b64 url xs) = some xs
  | x :: y :: z :: r => by
    obtain ⟨h1, h2, h3⟩ := by3 url x y z
    obtain ⟨l1, l2, l3, l4, _⟩ := isL4 url x y z
    simp only [b64, decAll, l1, l2, l3, l4, Bool.and_self, if_true, decAll_b64 url r, h1, h2, h3, Option.map_some, List.cons_append, List.nil_append]
  | [x, y] => by
    obtain ⟨h1, h2⟩ := by2 url x y
    obtain ⟨l1, l2, _, _, _, l6⟩ := isL4 url x y 0
    simp only [b64, decAll, l1, l2, l6, Bool.and_self, if_true, h1, h2]
  | [x] => by
    have h1 := by1 url x
    obtain ⟨l1, _, _, _, l5, _⟩ := isL4 url x 0 0
    simp only [b64, decAll, l1, l5, Bool.and_self, if_true, h1]
  | [] => rfl
theorem b64_inj {url : Bool} {xs ys : List UInt8} (h : b64 url xs = b64 url ys) : xs = ys := by
  have h1 := decAll_b64 url xs
  rw [h, decAll_b64 url ys] at h1
  exact (Option.some.inj h1).symm
/-- A letter behind whole groups is none. -/
theorem decAll_cut (url : Bool) (c : UInt8) : ∀ (k : Nat) (xs : List UInt8), xs.length = 3 * k → decAll url true (b64 url xs ++ [c]) = none
  | 0, [], _ => by simp [b64, decAll]
  | k + 1, x :: y :: z :: r, h => by
    obtain ⟨l1, l2, l3, l4, _⟩ := isL4 url x y z
    have h' : r.length = 3 * k := by simp at h; omega
    simp only [b64, List.cons_append, decAll, l1, l2, l3, l4, Bool.and_self, if_true, decAll_cut url c k r h', Option.map_none]
/-- Padding: as much as is needed, and none else. -/
theorem decAll_pad (url : Bool) (m : Nat) (hm : 0 < m) : ∀ xs : List UInt8, decAll url false (b64 url xs ++ List.replicate m 61) = if m = (4 - (b64 url xs).length % 4) % 4 then some xs else none
  | x :: y :: z :: r => by
    obtain ⟨h1, h2, h3⟩ := by3 url x y z
    obtain ⟨l1, l2, l3, l4, _⟩ := isL4 url x y z
    have e0 : (b64 url (x :: y :: z :: r)).length % 4 = (b64 url r).length % 4 := by simp only [b64, List.length_cons]; omega
    have e1 : decAll url false (b64 url (x :: y :: z :: r) ++ List.replicate m 61) = (decAll url false (b64 url r ++ List.replicate m 61)).map ([x, y, z] ++ ·) := by
      simp only [b64, List.cons_append, decAll, l1, l2, l3, l4, Bool.and_self, if_true, h1, h2, h3]
    rw [e0, e1, decAll_pad url m hm r]
    by_cases e : m = (4 - (b64 url r).length % 4) % 4
    · rw [if_pos e, if_pos e]; rfl
    · rw [if_neg e, if_neg e]; rfl
  | [x, y] => by
    obtain ⟨h1, h2⟩ := by2 url x y
    obtain ⟨l1, l2, _, _, _, l6⟩ := isL4 url x y 0
    match m, hm with
    | 1, _ => simp [b64, decAll, l1, l2, l6, h1, h2, isL_61]
    | m + 2, _ => simp [b64, decAll, l1, l2, l6, h1, h2, isL_61, List.replicate_succ]
  | [x] => by
    have h1 := by1 url x
    obtain ⟨l1, _, _, _, l5, _⟩ := isL4 url x 0 0
    match m, hm with
    | 1, _ => simp [b64, decAll, l1, l5, h1, isL_61]
    | 2, _ => simp [b64, decAll, l1, l5, h1, isL_61]
    | m + 3, _ => simp [b64, decAll, l1, l5, h1, isL_61, List.replicate_succ]
  | [] => by
    match m, hm with
    | 1, _ => simp [b64, decAll]
    | 2, _ => simp [b64, decAll]
    | 3, _ => simp [b64, decAll]
    | m + 4, _ => simp [b64, decAll, isL_61, List.replicate_succ]
/-- Every byte of what is written is a letter. -/
theorem b64_all (url : Bool) : ∀ xs, (b64 url xs).all (isL url) = true
  | x :: y :: z :: r => by
    obtain ⟨l1, l2, l3, l4, _⟩ := isL4 url x y z
    simp only [b64, List.all_cons, l1, l2, l3, l4, b64_all url r, Bool.and_self]
  | [x, y] => by
    obtain ⟨l1, l2, _, _, _, l6⟩ := isL4 url x y 0
    simp only [b64, List.all_cons, List.all_nil, l1, l2, l6, Bool.and_self]
  | [x] => by
    obtain ⟨l1, _, _, _, l5, _⟩ := isL4 url x 0 0
    simp only [b64, List.all_cons, List.all_nil, l1, l5, Bool.and_self]
  | [] => rfl
theorem b64_isL (url : Bool) (xs : List UInt8) (c : UInt8) (hc : c ∈ b64 url xs) : isL url c = true := List.all_eq_true.1 (b64_all url xs) c hc
end Go.Proofs.YtlncbbmmlhammaaDoor
