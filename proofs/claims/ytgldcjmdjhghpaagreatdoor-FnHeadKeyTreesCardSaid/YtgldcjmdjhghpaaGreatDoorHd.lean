/-
  spec's HeadField as data; spec.headDigits: its contract.
-/
import Derived.Test.YtgldcjmdjhghpaaGreatDoorTx
import Derived.Test.YtgldcjmdjhghpaaGreatDoorFt
import Derived.Deep.DeepCutAuto
import Derived.Deep.CutBlock
namespace Go.Proofs.YtgldcjmdjhghpaaGreatDoor
open Go.RowKit Go.Proofs.YtgldcjmdjhghpaaGreatDoorW.PrintWords Go.ChangeShapes Go.WideShapes
set_option linter.unusedVariables false
set_option linter.unusedSimpArgs false
set_option maxRecDepth 100000
abbrev kHf : Kd Hf := Kd.pair Kd.string (Kd.pair (Kd.int .u8) (Kd.pair Kd.bool (Kd.pair Kd.bool (Kd.pair (Kd.int .u64) (Kd.pair Kd.string (Kd.slice 9 Kd.string))))))
/-- The last cell of a field, read. -/
structure LstIs (w : World) (v : Value) (xs : List ByteArray) : Prop where
  out : ∃ A c, v = .slice A xs.length c ∧ xs.length ≤ c ∧ Kd.string.C w A xs.length xs
theorem LstIs.below {w w' : World} {v : Value} {xs : List ByteArray} (h : LstIs w v xs) (hb : Below w.heap.size w w') : LstIs w' v xs := by
  obtain ⟨A, c, h1, h2, h3⟩ := h.out
  exact ⟨A, c, h1, h2, Kd.C_below h3 hb⟩
theorem kHf_open {w : World} {x : Hf} {cs : List Value} (h : kHf.K w x cs) : ∃ v, cs = [.string x.1, .int .u8 x.2.1, .bool x.2.2.1, .bool x.2.2.2.1, .int .u64 x.2.2.2.2.1, .string x.2.2.2.2.2.1, v] ∧ LstIs w v x.2.2.2.2.2.2 := by
  obtain ⟨_, _, rfl, rfl, _, _, rfl, rfl, _, _, rfl, rfl, _, _, rfl, rfl, _, _, rfl, rfl, _, _, rfl, rfl, A, c, rfl, h1, h2⟩ := h
  exact ⟨_, rfl, ⟨A, c, rfl, h1, h2⟩⟩
/-- The cells of an element of a row that is read, as the walk names them. -/
theorem C_cells {α : Type} {d : Kd α} {w : World} {A : Option Addr} {n : Nat} {xs : List α} (h : d.C w A n xs) (k : Nat) (hk : k < xs.length) :
    ∃ ad c, A = some ad ∧ c.length = d.sz ∧ d.K w xs[k] c ∧ ∀ j u, c[j]? = some u → (if j = 0 then w.cell? (ad.add (k * d.sz)) else w.cell? ⟨(ad.add (k * d.sz)).block, (ad.add (k * d.sz)).off + j, none⟩) = some u := by
  obtain ⟨ad, c, e, hl, hK, hc⟩ := Kd.C_get h xs[k] (k : Int) (by omega) (by have := h.1; omega)
  simp only [Int.toNat_natCast, List.getD_eq_getElem?_getD, List.getElem?_eq_getElem hk, Option.getD_some] at hK hc
  refine ⟨ad, c, e, hl, hK, fun j u hu => ?_⟩
  have := hc j u hu
  by_cases hj : j = 0
  · subst hj
    rw [if_pos rfl]
    rwa [Nat.add_zero] at this
  · rw [if_neg hj, ← add_field _ _ j (by omega)]
    exact this
/-- A field's cells in a row. -/
structure HcIs (w : World) (ad : Addr) (k : Nat) (f : Hf) (A : Option Addr) (c : Nat) : Prop where
  hC : Kd.string.C w A f.2.2.2.2.2.2.length f.2.2.2.2.2.2
  hle : f.2.2.2.2.2.2.length ≤ c
  e0 : w.cell? (ad.add (k * 7)) = some (.string f.1)
  e1 : w.cell? ⟨(ad.add (k * 7)).block, (ad.add (k * 7)).off + 1, none⟩ = some (.int .u8 f.2.1)
  e2 : w.cell? ⟨(ad.add (k * 7)).block, (ad.add (k * 7)).off + 2, none⟩ = some (.bool f.2.2.1)
  e3 : w.cell? ⟨(ad.add (k * 7)).block, (ad.add (k * 7)).off + 3, none⟩ = some (.bool f.2.2.2.1)
  e4 : w.cell? ⟨(ad.add (k * 7)).block, (ad.add (k * 7)).off + 4, none⟩ = some (.int .u64 f.2.2.2.2.1)
  e5 : w.cell? ⟨(ad.add (k * 7)).block, (ad.add (k * 7)).off + 5, none⟩ = some (.string f.2.2.2.2.2.1)
  e6 : w.cell? ⟨(ad.add (k * 7)).block, (ad.add (k * 7)).off + 6, none⟩ = some (.slice A f.2.2.2.2.2.2.length c)
theorem HcIs.get {w : World} {B : Option Addr} {n : Nat} {xs : List Hf} (h : kHf.C w B n xs) (k : Nat) (hk : k < xs.length) :
    ∃ ad A c, B = some ad ∧ HcIs w ad k xs[k] A c := by
  obtain ⟨ad, cs, e, hl, hK, hc⟩ := C_cells h k hk
  obtain ⟨v, rfl, hL⟩ := kHf_open hK
  obtain ⟨A, c, rfl, hle, hC⟩ := hL.out
  exact ⟨ad, A, c, e, hC, hle, hc 0 _ rfl, hc 1 _ rfl, hc 2 _ rfl, hc 3 _ rfl, hc 4 _ rfl, hc 5 _ rfl, hc 6 _ rfl⟩
def hfCells (f : Hf) (A : Option Addr) (c : Nat) : Array Value := #[.string f.1, .int .u8 f.2.1, .bool f.2.2.1, .bool f.2.2.2.1, .int .u64 f.2.2.2.2.1, .string f.2.2.2.2.2.1, .slice A f.2.2.2.2.2.2.length c]
/-- A text that may stand in a header. -/
structure TOk (s : ByteArray) : Prop where
  len : s.size ≤ 200
  valid : Lib.validD s.data.toList = true
/-- A field that may stand in a header. -/
structure FOk (f : Hf) : Prop where
  k0 : 0 ≤ f.2.1
  k6 : f.2.1 ≤ 6
  n0 : 0 ≤ f.2.2.2.2.1
  n1 : f.2.2.2.2.1 < 18446744073709551616
  name : TOk f.1
  text : TOk f.2.2.2.2.2.1
  len : f.2.2.2.2.2.2.length ≤ 30
  list : ∀ s ∈ f.2.2.2.2.2.2, TOk s
theorem TOk.eq {s : ByteArray} (h : TOk s) : s = bStr (encR (runesOf s)) := data_ext (by rw [bStr_list]; exact runesOf_valid h.valid)
theorem TOk.runes {s : ByteArray} (h : TOk s) : (runesOf s).length ≤ 200 := by
  have h1 := encR_len (runesOf s)
  have h2 : s.size = (encR (runesOf s)).length := by
    conv => lhs; rw [h.eq]
    exact bStr_size _
  have := h.len
  omega
/-- A text in quotation marks, as a state writes it. -/
theorem quote_any (w : World) (g x : Nat) (s : ByteArray) (hs : TOk s) (h : StyAt w g x) (hx : x < 18446744073709551616) :
    Calls Tryz.prog 30 #[.pointer (some ⟨g, 0, none⟩), .string s] w fun e w' => e = .returned (.string (bStr (quoF s x).1)) ∧ Sty w g (quoF s x).2 w' := by
  have := text_any w g x (runesOf s) h hx (runesOf_ok s) (by have := hs.runes; omega)
  rw [← hs.eq] at this
  exact this
theorem textF_lt (rs : List Nat) : ∀ x, x < 18446744073709551616 → (textF rs x).2 < 18446744073709551616 := by
  induction rs with
  | nil => intro x h; exact h
  | cons c rs ih =>
    intro x h
    refine ih _ ?_
    unfold charF
    split
    · exact escC_lt _ _ (askC_lt _ _ h)
    · exact askC_lt _ _ h
theorem quoF_lt (s : ByteArray) (x : Nat) (h : x < 18446744073709551616) : (quoF s x).2 < 18446744073709551616 := textF_lt _ _ h
theorem quoF_len {s : ByteArray} (hs : TOk s) (x : Nat) : (quoF s x).1.length ≤ 2402 := by
  have h1 := textF_len (runesOf s) x
  have h2 := hs.runes
  unfold quoF
  simp only [List.length_cons, List.length_append, List.length_nil]
  omega
theorem blk_lt (x : Nat) (h : x < 18446744073709551616) : (blk x).2 < 18446744073709551616 := blankF_lt _ _ h
theorem blk_len (x : Nat) : (blk x).1.length ≤ 65537 := (blankF_ws _ x).2
theorem pow10 (k : Nat) : ∀ m, m < 10 ^ (k + 1) → 10 ≤ m → m / 10 < 10 ^ k := fun m h _ => by
  rw [Nat.pow_succ] at h
  omega
theorem digAll_at (d : Nat) (h : d < 10) : (bStr [48, 49, 50, 51, 52, 53, 54, 55, 56, 57]).extract d (d + 1) = bStr [UInt8.ofNat (48 + d)] := by
  rw [bStr_ext]
  have : ∀ d : Fin 10, (([48, 49, 50, 51, 52, 53, 54, 55, 56, 57] : Bs).take (d.val + 1)).drop d.val = [UInt8.ofNat (48 + d.val)] := by decide
  rw [this ⟨d, h⟩]
set_option maxHeartbeats 2000000 in
theorem headDigits_any (n : Nat) (w : World) (hn : n < 18446744073709551616) :
    Calls Tryz.prog 37 #[.int .u64 (n : Int)] w fun e w' => e = .returned (.string (bStr (digF n))) ∧ w = w' := by
  have h20 : n < 10 ^ 20 := Nat.lt_of_lt_of_le hn (by decide)
  have H0 : Aside0 (∃ (k m : Nat) (acc : Bs), Value.int .u64 (n : Int) = .int .u64 (m : Int) ∧ Value.string ByteArray.empty = .string (bStr acc) ∧ digK (k + 1) m ++ acc = digF n ∧ m < 10 ^ (k + 1) ∧ m < 18446744073709551616 ∧ acc.length + k ≤ 19) := ⟨19, n, [], rfl, rfl, List.append_nil _, h20, hn, by simp⟩
  clear hn h20
  go_enter Tryz.func37, Tryz.ntmps37
  go_wp2
  go_loop [0, 3] (fun s0 s3 => ∃ (k m : Nat) (acc : Bs), s0 = .int .u64 (m : Int) ∧ s3 = .string (bStr acc) ∧ digK (k + 1) m ++ acc = digF n ∧ m < 10 ^ (k + 1) ∧ m < 18446744073709551616 ∧ acc.length + k ≤ 19) (fun s0 _ => (intOf s0).toNat)
  case atStart => exact H0.out
  case round =>
    clear H0
    obtain ⟨k, m, acc, rfl, rfl, he, hm, hm2, hl⟩ := hrel
    obtain ⟨d, hd⟩ : ∃ d, d = m % 10 := ⟨_, rfl⟩
    have hd10 : d < 10 := by rw [hd]; exact Nat.mod_lt _ (by decide)
    have e1 : (m : Int) % 10 = (d : Int) := by omega
    obtain ⟨q, hq⟩ : ∃ q, q = m / 10 := ⟨_, rfl⟩
    have e2 : (m : Int) / 10 = (q : Int) := by omega
    obtain ⟨u, hu⟩ : ∃ u, u = bStr [UInt8.ofNat (48 + d)] := ⟨_, rfl⟩
    have hex : (⟨#[48, 49, 50, 51, 52, 53, 54, 55, 56, 57]⟩ : ByteArray).extract d (d + 1) = u := by rw [hu]; exact digAll_at d hd10
    have hus : u.size ≤ 1 := by rw [hu]; exact Nat.le_refl _
    obtain ⟨t, ht⟩ : ∃ t, t = bStr acc := ⟨_, rfl⟩
    have hts : t.size ≤ 20 := by rw [ht, bStr_size]; omega
    have HU := Aside0.mk (And.intro hu ht)
    rw [← ht]
    have d0 : (0 : Int) ≤ (d : Int) := by omega
    have d1 : (d : Int) < 10 := by omega
    by_cases h10 : m < 10
    · have hq0 : q = 0 := by omega
      subst hq0
      have HR : Aside0 (bStr [UInt8.ofNat (48 + d)] ++ bStr acc = bStr (digF n)) := ⟨by
        rw [bStr_app, ← he, digK, if_pos h10, hd, Nat.mod_eq_of_lt h10]⟩
      have e2' : (m : Int) / 10 = 0 := by omega
      clear he hm hm2 hl hd hq hu ht e2 h10
      go_wp2
      go_ret
      exact ⟨by rw [← HR.out, ← HU.out.1, ← HU.out.2]; rfl, rfl⟩
    · have hk : ∃ j, k = j + 1 := by
        cases k with
        | zero => rw [Nat.zero_add, Nat.pow_one] at hm; omega
        | succ j => exact ⟨j, rfl⟩
      obtain ⟨j, rfl⟩ := hk
      have HNew : Aside0 (∃ (k m : Nat) (acc : Bs), Value.int .u64 (q : Int) = .int .u64 (m : Int) ∧ Value.string (u ++ t) = .string (bStr acc) ∧ digK (k + 1) m ++ acc = digF n ∧ m < 10 ^ (k + 1) ∧ m < 18446744073709551616 ∧ acc.length + k ≤ 19) := ⟨j, q, UInt8.ofNat (48 + d) :: acc, rfl, by rw [hu, ht, bStr_app]; rfl, by
        rw [← he, hq, hd]
        conv => rhs; rw [digK, if_neg h10]
        simp, by rw [hq]; exact pow10 _ _ hm (by omega), by omega, by rw [List.length_cons]; omega⟩
      have q0 : ((q : Int) == 0) = false := by rw [beq_eq_false_iff_ne]; omega
      have hqm : q < m := by omega
      have hz : IntKind.u64.wrap (q : Int) = (q : Int) := by rw [IntKind.wrap_u64]; omega
      clear he hm hm2 hl hd hq hu ht h10
      go_wp2
      go_round
      case rel => exact HNew.out
      case measure => simp [intOf]; omega
end Go.Proofs.YtgldcjmdjhghpaaGreatDoor
