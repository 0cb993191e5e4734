/-
  utf16.DecodeRune of a pair; a character as UTF-8; which texts have escapes that are well formed.
  unescapeStringBestEffort: the plain words of its loop. No walk.
-/
import Derived.Test.YtgldcjmdjhghpaaGreatDoorQg
import Derived.Laws.BitsAllLaws
import Derived.Laws.Runes
namespace Go.Proofs.YtgldcjmdjhghpaaGreatDoor
open Go.RowKit Go.Proofs.YtgldcjmdjhghpaaGreatDoorW.PrintWords Go.ChangeShapes Go.WideShapes
set_option linter.unusedVariables false
set_option linter.unusedSimpArgs false
set_option maxRecDepth 100000
theorem encode_utf8 (x : Nat) : Utf8.encode (x : Int) = bStr (utf8 x) := by
  unfold Utf8.encode utf8
  have hv : Utf8.valid (x : Int) = decide (x < 0xD800 ∨ 0xE000 ≤ x ∧ x ≤ 0x10FFFF) := by
    unfold Utf8.valid
    rw [Bool.eq_iff_iff]
    simp
    omega
  rw [hv, Int.toNat_natCast]
  by_cases h1 : x < 0x80
  · rw [decide_eq_true (by omega)]
    simp [h1, bStr]
  · by_cases h2 : x < 0x800
    · rw [decide_eq_true (by omega)]
      simp [h1, h2, bStr]
    · by_cases h3 : 0xd800 ≤ x ∧ x < 0xe000 ∨ 0x10ffff < x
      · rw [decide_eq_false (by omega)]
        simp only [h1, h2, h3, if_false, if_true, Bool.false_eq_true]
        rfl
      · rw [decide_eq_true (by omega)]
        by_cases h4 : x < 0x10000
        · simp [h1, h2, h3, h4, bStr]
        · simp [h1, h2, h3, h4, bStr]
theorem i32_or (a b : Nat) (ha : a < 1048576) (hb : b < 1024) (hm : a % 1024 = 0) : bits .or .i32 (a : Int) (b : Int) = ((a + b : Nat) : Int) := by
  have e1 : (BitVec.ofInt 32 (a : Int)).toNat = a := ofInt_u32 a (by omega)
  have e2 : (BitVec.ofInt 32 (b : Int)).toNat = b := ofInt_u32 b (by omega)
  have ho : a ||| b = a + b := by
    have := Nat.two_pow_add_eq_or_of_lt (show b < 2 ^ 10 from hb) (a / 1024)
    rw [show 2 ^ 10 * (a / 1024) = a by omega] at this
    exact this.symm
  show IntKind.i32.wrap ((BitVec.ofInt 32 (a : Int) ||| BitVec.ofInt 32 (b : Int)).toNat : Int) = _
  rw [BitVec.toNat_or, e1, e2, ho]
  rw [IntKind.wrap_i32]
  omega
theorem decodeRune_any (x y : Nat) (w : World) (hx1 : 55296 ≤ x) (hx2 : x < 56320) (hy1 : 56320 ≤ y) (hy2 : y < 57344) :
    Calls Tryz.prog 59 #[.int .i32 (x : Int), .int .i32 (y : Int)] w fun e w' => e = .returned (.int .i32 (surr x y : Nat)) ∧ w = w' := by
  have HS : Aside0 (surr x y = (x - 55296) * 1024 + (y - 56320) + 65536) := ⟨by unfold surr; rw [if_pos ⟨hx1, hx2, hy1, hy2⟩]⟩
  rw [HS.out]
  have q1 : (55296 : Int) ≤ (x : Int) := by omega
  have q2 : (x : Int) < 56320 := by omega
  have q3 : (56320 : Int) ≤ (y : Int) := by omega
  have q4 : (y : Int) < 57344 := by omega
  obtain ⟨a, ha⟩ : ∃ a : Nat, a = (x - 55296) * 1024 := ⟨_, rfl⟩
  obtain ⟨b, hb⟩ : ∃ b : Nat, b = y - 56320 := ⟨_, rfl⟩
  have m1 : IntKind.i32.wrap ((x : Int) - 55296) = (x : Int) - 55296 := by rw [IntKind.wrap_i32]; omega
  have m2 : IntKind.i32.wrap (((x : Int) - 55296) * 1024) = (a : Int) := by rw [IntKind.wrap_i32]; omega
  have m3 : IntKind.i32.wrap ((y : Int) - 56320) = (b : Int) := by rw [IntKind.wrap_i32]; omega
  have m4 := i32_or a b (by omega) (by omega) (by omega)
  have m5 : IntKind.i32.wrap (((a + b : Nat) : Int) + 65536) = (((x - 55296) * 1024 + (y - 56320) + 65536 : Nat) : Int) := by rw [IntKind.wrap_i32]; omega
  obtain ⟨z, hz⟩ : ∃ z : Nat, z = (x - 55296) * 1024 + (y - 56320) + 65536 := ⟨_, rfl⟩
  obtain ⟨ab, hab⟩ : ∃ z : Nat, z = a + b := ⟨_, rfl⟩
  rw [← hz] at m5 ⊢
  rw [← hab] at m4 m5
  clear ha hb hz hab hx1 hx2 hy1 hy2 HS
  go_enter Tryz.func59, Tryz.ntmps59
  go_wp2
  go_ret
  exact ⟨by simp [m1, m2, m3, m4, m5], rfl⟩
/-- The hexadecimal number of well-formed digits. -/
theorem hexN_hexV4 (s : Bs) (h : s.all hexL = true) : ∀ a, hexN s a = some (hexV4 s a) := by
  induction s with
  | nil => intro a; rfl
  | cons c r ih =>
    intro a
    rw [List.all_cons, Bool.and_eq_true] at h
    have hc : hexV c = some (hexD c) := by
      have h1 := h.1
      unfold hexL at h1
      unfold hexV hexD
      simp only [Bool.or_eq_true, Bool.and_eq_true, decide_eq_true_eq] at h1
      simp only [UInt8.le_iff_toNat_le]
      rcases h1 with ⟨h2, h3⟩ | ⟨h2, h3⟩
      · rw [if_pos ⟨h2, h3⟩, if_pos h3]
      · rw [if_neg (fun hh => by have := hh.2; have e : (57 : UInt8).toNat = 57 := rfl; omega), if_pos ⟨h2, h3⟩, if_neg (by omega)]
    show (hexV c).bind _ = _
    rw [hc]
    exact ih h.2 _
/-- Is what follows a reverse solidus an escape as the reference writes them? -/
def okEsc (c : UInt8) (r : Bs) : Bool :=
  if c = 117 then
    decide (4 ≤ r.length) && (r.take 4).all hexL &&
    (!isSur (hexV4 (r.take 4) 0) ||
      (decide (6 ≤ (r.drop 4).length) && decide ((r.drop 4).take 2 = [92, 117]) && (((r.drop 4).drop 2).take 4).all hexL && decide (hexV4 (r.take 4) 0 < 56320) && decide (56320 ≤ hexV4 (((r.drop 4).drop 2).take 4) 0) && decide (hexV4 (((r.drop 4).drop 2).take 4) 0 < 57344)))
  else c = 34 || c = 92 || c = 47 || c = 98 || c = 102 || c = 110 || c = 114 || c = 116
mutual
def wellB : Nat → Bs → Bool
  | 0, _ => false
  | _ + 1, [] => true
  | n + 1, c :: r => okEsc c r && wellT n (escStep c r).2
def wellT : Nat → Bs → Bool
  | 0, _ => false
  | n + 1, s =>
    match s.dropWhile noBack with
    | [] => true
    | _ :: q => wellB n q
end
def Well (s : Bs) : Prop := wellT (2 * s.length + 1) s = true
end Go.Proofs.YtgldcjmdjhghpaaGreatDoor
namespace Go.Proofs.YtgldcjmdjhghpaaGreatDoor
open Go.RowKit Go.Proofs.YtgldcjmdjhghpaaGreatDoorW.PrintWords Go.ChangeShapes Go.WideShapes
set_option linter.unusedVariables false
set_option linter.unusedSimpArgs false
theorem back_no (s : Bs) (h : (92 : UInt8) ∉ s) : s.dropWhile noBack = [] := by
  induction s with
  | nil => rfl
  | cons c q ih =>
    have hc : noBack c = true := bne_iff_ne.2 (fun e => h (by rw [e]; exact List.mem_cons_self ..))
    rw [List.dropWhile_cons, if_pos hc]
    exact ih (fun hh => h (List.mem_cons_of_mem _ hh))
theorem back_at (p r : Bs) (h : (92 : UInt8) ∉ p) : (p ++ 92 :: r).dropWhile noBack = 92 :: r ∧ (p ++ 92 :: r).takeWhile noBack = p := by
  induction p with
  | nil => exact ⟨rfl, rfl⟩
  | cons c q ih =>
    have hc : noBack c = true := bne_iff_ne.2 (fun e => h (by rw [e]; exact List.mem_cons_self ..))
    have := ih (fun hh => h (List.mem_cons_of_mem _ hh))
    constructor
    · show ((c :: (q ++ 92 :: r)).dropWhile noBack) = _
      rw [List.dropWhile_cons, if_pos hc]
      exact this.1
    · show ((c :: (q ++ 92 :: r)).takeWhile noBack) = _
      rw [List.takeWhile_cons, if_pos hc, this.2]
theorem unescT_no {n : Nat} {s : Bs} (h : (92 : UInt8) ∉ s) : unescT n s = s := by
  cases n with
  | zero => rw [unescT]
  | succ n => rw [unescT, back_no s h]
theorem unescT_at {n : Nat} {p r : Bs} (h : (92 : UInt8) ∉ p) : unescT (n + 1) (p ++ 92 :: r) = p ++ unescB n r := by
  rw [unescT, (back_at p r h).1, (back_at p r h).2]
theorem wellT_at {n : Nat} {p r : Bs} (h : (92 : UInt8) ∉ p) : wellT (n + 1) (p ++ 92 :: r) = wellB n r := by
  rw [wellT, (back_at p r h).1]
theorem tail_cases {m : Nat} {rest acc target : Bs} (hw : wellT m rest = true) (ht : target = acc ++ unescT m rest) :
    ((92 : UInt8) ∉ rest ∧ target = acc ++ rest) ∨ ∃ p r2 m2, rest = p ++ 92 :: r2 ∧ (92 : UInt8) ∉ p ∧ wellB m2 r2 = true ∧ target = acc ++ p ++ unescB m2 r2 := by
  rcases split_at 92 rest with h | ⟨p, r, rfl, h⟩
  · exact .inl ⟨h, by rw [ht, unescT_no h]⟩
  · cases m with
    | zero => rw [wellT] at hw; cases hw
    | succ m => exact .inr ⟨p, r, m, rfl, h, by rw [← wellT_at h]; exact hw, by rw [ht, unescT_at h, List.append_assoc]⟩
theorem wellB_cons {n : Nat} {c : UInt8} {r acc target : Bs} (hw : wellB n (c :: r) = true) (ht : target = acc ++ unescB n (c :: r)) :
    okEsc c r = true ∧ ∃ m, wellT m (escStep c r).2 = true ∧ target = acc ++ (escStep c r).1 ++ unescT m (escStep c r).2 := by
  cases n with
  | zero => rw [wellB] at hw; cases hw
  | succ n =>
    rw [wellB, Bool.and_eq_true] at hw
    exact ⟨hw.1, n, hw.2, by rw [ht, unescB, List.append_assoc]⟩
theorem wellB_nil {n : Nat} {acc target : Bs} (ht : target = acc ++ unescB n []) : target = acc := by
  cases n with
  | zero => rw [ht, unescB, List.append_nil]
  | succ n => rw [ht, unescB, List.append_nil]
theorem well_cases (s : Bs) (hw : Well s) : ((92 : UInt8) ∉ s ∧ unesc s = s) ∨ ∃ p r m, s = p ++ 92 :: r ∧ (92 : UInt8) ∉ p ∧ wellB m r = true ∧ unesc s = p ++ unescB m r := by
  rcases tail_cases (acc := []) (target := unesc s) hw rfl with h | ⟨p, r, m, h1, h2, h3, h4⟩
  · exact .inl h
  · exact .inr ⟨p, r, m, h1, h2, h3, h4⟩
/-- What an escape of the reference is. -/
inductive EscIs : UInt8 → Bs → Prop
  | one {c : UInt8} {r : Bs} (o : UInt8) (h : (c = 34 ∧ o = 34) ∨ (c = 92 ∧ o = 92) ∨ (c = 47 ∧ o = 47) ∨ (c = 98 ∧ o = 8) ∨ (c = 102 ∧ o = 12) ∨ (c = 110 ∧ o = 10) ∨ (c = 114 ∧ o = 13) ∨ (c = 116 ∧ o = 9)) (he : escStep c r = ([o], r)) : EscIs c r
  | plain {r : Bs} (d q : Bs) (hr : r = d ++ q) (h4 : d.length = 4) (hx : ∀ c ∈ d, hexL c = true) (hs : isSur (hexV4 d 0) = false) (he : escStep 117 r = (utf8 (hexV4 d 0), q)) : EscIs 117 r
  | pair {r : Bs} (d e q : Bs) (hr : r = d ++ 92 :: 117 :: (e ++ q)) (h4 : d.length = 4) (hx : ∀ c ∈ d, hexL c = true) (hs : isSur (hexV4 d 0) = true) (h4' : e.length = 4) (hx' : ∀ c ∈ e, hexL c = true) (h1 : 55296 ≤ hexV4 d 0) (h2 : hexV4 d 0 < 56320) (h3 : 56320 ≤ hexV4 e 0) (h5 : hexV4 e 0 < 57344) (he : escStep 117 r = (utf8 (surr (hexV4 d 0) (hexV4 e 0)), q)) : EscIs 117 r
theorem esc_is {c : UInt8} {r : Bs} (h : okEsc c r = true) : EscIs c r := by
  by_cases hc : c = 117
  · subst hc
    unfold okEsc at h
    rw [if_pos rfl, Bool.and_eq_true, Bool.and_eq_true, decide_eq_true_eq] at h
    obtain ⟨⟨h4, hx⟩, h⟩ := h
    have hd4 : (r.take 4).length = 4 := by rw [List.length_take]; omega
    have hxe := hexN_hexV4 (r.take 4) hx 0
    have hstep : escStep 117 r = if r.length < 4 then ([92, 117], r)
        else match hexN (r.take 4) 0 with
        | none => ([92, 117], r)
        | some x =>
          if isSur x = false then (utf8 x, r.drop 4)
          else if (r.drop 4).length < 6 ∨ (r.drop 4).take 2 ≠ [92, 117] then ([92, 117] ++ r.take 4, r.drop 4)
          else match hexN (((r.drop 4).drop 2).take 4) 0 with
          | none => ([92, 117] ++ r.take 4, r.drop 4)
          | some y => (utf8 (surr x y), (r.drop 4).drop 6) := by
      unfold escStep
      rfl
    rw [if_neg (by omega), hxe] at hstep
    cases hs : isSur (hexV4 (r.take 4) 0) with
    | false =>
      simp only [hs, if_true] at hstep
      exact .plain (r.take 4) (r.drop 4) (List.take_append_drop 4 r).symm hd4 (List.all_eq_true.1 hx) hs hstep
    | true =>
      rw [hs] at h
      simp only [Bool.not_true, Bool.false_or, Bool.and_eq_true, decide_eq_true_eq] at h
      obtain ⟨⟨⟨⟨⟨g1, g2⟩, g3⟩, g4⟩, g5⟩, g6⟩ := h
      have hxe2 := hexN_hexV4 _ g3 0
      have g7 : 55296 ≤ hexV4 (r.take 4) 0 := by
        unfold isSur at hs
        simp at hs
        omega
      simp only [hs, hxe2] at hstep
      rw [if_neg (by decide), if_neg (by
        rintro (hh | hh)
        · omega
        · exact hh g2)] at hstep
      refine .pair (r.take 4) (((r.drop 4).drop 2).take 4) ((r.drop 4).drop 6) ?_ hd4 (List.all_eq_true.1 hx) hs (by rw [List.length_take, List.length_drop]; omega) (List.all_eq_true.1 g3) g7 g4 g5 g6 hstep
      have e1 : r = r.take 4 ++ r.drop 4 := (List.take_append_drop 4 r).symm
      have e2 : r.drop 4 = [92, 117] ++ (r.drop 4).drop 2 := by
        have := (List.take_append_drop 2 (r.drop 4)).symm
        rwa [g2] at this
      have e3 : (r.drop 4).drop 2 = ((r.drop 4).drop 2).take 4 ++ (r.drop 4).drop 6 := by
        have := (List.take_append_drop 4 ((r.drop 4).drop 2)).symm
        rwa [show ((r.drop 4).drop 2).drop 4 = (r.drop 4).drop 6 by rw [List.drop_drop]] at this
      have e4 : r.drop 4 = 92 :: 117 :: (((r.drop 4).drop 2).take 4 ++ (r.drop 4).drop 6) := by
        rw [← e3]
        exact e2
      rw [← e4]
      exact e1
  · unfold okEsc at h
    rw [if_neg hc] at h
    simp only [Bool.or_eq_true, decide_eq_true_eq] at h
    rcases h with ((((((h | h) | h) | h) | h) | h) | h) | h
    · subst h; exact .one 34 (by simp) rfl
    · subst h; exact .one 92 (by simp) rfl
    · subst h; exact .one 47 (by simp) rfl
    · subst h; exact .one 8 (by simp) rfl
    · subst h; exact .one 12 (by simp) rfl
    · subst h; exact .one 10 (by simp) rfl
    · subst h; exact .one 13 (by simp) rfl
    · subst h; exact .one 9 (by simp) rfl
theorem utf8_len (x : Nat) : (utf8 x).length ≤ 4 := by
  unfold utf8
  split
  · simp
  · split
    · simp
    · split
      · simp
      · split <;> simp
theorem utf8_len3 (x : Nat) (h : x < 65536) : (utf8 x).length ≤ 3 := by
  unfold utf8
  split
  · simp
  · split
    · simp
    · split
      · simp
      · simp
end Go.Proofs.YtgldcjmdjhghpaaGreatDoor
