/-
  impl.Plain and impl.Field as data; laws.zzFits1, spec.MapOther, laws.mapShort: their contracts.
-/
import Derived.Test.YtldbelghobohiaaGreatStr
import Derived.Test.YtldbelghobohiaaGreatOpen
import Derived.Deep.DeepCutAuto
import Derived.Deep.CutBlock
namespace Go.Proofs.YtldbelghobohiaaGreat
open Go.RowKit Go.Proofs.YtldbelghobohiaaGreatW.PrintWords Go.ChangeShapes Go.WideShapes
set_option linter.unusedVariables false
set_option linter.unusedSimpArgs false
/-- Kind, text, truth value, number, list. -/
abbrev Pl := Int × ByteArray × Bool × Int × List ByteArray
abbrev kPl : Kd Pl := Kd.pair (Kd.int .i64) (Kd.pair Kd.string (Kd.pair Kd.bool (Kd.pair (Kd.int .i32) (Kd.slice 9 Kd.string))))
/-- A field: its name, its value. -/
abbrev Fd := ByteArray × Pl
abbrev kFd : Kd Fd := Kd.pair Kd.string kPl
/-- The last cell of a plain value, read. -/
structure LstIs (w : World) (v : Value) (xs : List ByteArray) : Prop where
  out : ∃ A c, v = .slice A xs.length c ∧ xs.length ≤ c ∧ Kd.string.C w A xs.length xs
theorem LstIs.below {w w' : World} {v : Value} {xs : List ByteArray} (h : LstIs w v xs) (hb : Below w.heap.size w w') : LstIs w' v xs := by
  obtain ⟨A, c, h1, h2, h3⟩ := h.out
  exact ⟨A, c, h1, h2, Kd.C_below h3 hb⟩
theorem kPl_open {w : World} {x : Pl} {cs : List Value} (h : kPl.K w x cs) : ∃ v, cs = [.int .i64 x.1, .string x.2.1, .bool x.2.2.1, .int .i32 x.2.2.2.1, v] ∧ LstIs w v x.2.2.2.2 := by
  obtain ⟨_, _, rfl, rfl, _, _, rfl, rfl, _, _, rfl, rfl, _, _, rfl, rfl, A, c, rfl, h1, h2⟩ := h
  exact ⟨_, rfl, ⟨A, c, rfl, h1, h2⟩⟩
theorem kPl_mk {w : World} {x : Pl} {v : Value} (h : LstIs w v x.2.2.2.2) : kPl.K w x [.int .i64 x.1, .string x.2.1, .bool x.2.2.1, .int .i32 x.2.2.2.1, v] := by
  obtain ⟨A, c, rfl, h1, h2⟩ := h.out
  exact ⟨[_], _, rfl, rfl, [_], _, rfl, rfl, [_], _, rfl, rfl, [_], [_], rfl, rfl, A, c, rfl, h1, h2⟩
theorem kFd_open {w : World} {x : Fd} {cs : List Value} (h : kFd.K w x cs) : ∃ v, cs = [.string x.1, .int .i64 x.2.1, .string x.2.2.1, .bool x.2.2.2.1, .int .i32 x.2.2.2.2.1, v] ∧ LstIs w v x.2.2.2.2.2 := by
  obtain ⟨_, _, rfl, rfl, h⟩ := h
  obtain ⟨v, rfl, hl⟩ := kPl_open h
  exact ⟨v, rfl, hl⟩
theorem kFd_mk {w : World} {x : Fd} {v : Value} (h : LstIs w v x.2.2.2.2.2) : kFd.K w x [.string x.1, .int .i64 x.2.1, .string x.2.2.1, .bool x.2.2.2.1, .int .i32 x.2.2.2.2.1, v] :=
  ⟨[_], _, rfl, rfl, kPl_mk h⟩
/-- The cells of an element of a row that is read, as the walk names them. -/
theorem C_cells {α : Type} {d : Kd α} {w : World} {A : Option Addr} {n : Nat} {xs : List α} (h : d.C w A n xs) (k : Nat) (hk : k < xs.length) :
    ∃ ad c, A = some ad ∧ c.length = d.sz ∧ d.K w xs[k] c ∧ ∀ j u, c[j]? = some u → (if j = 0 then w.cell? (ad.add (k * d.sz)) else w.cell? ⟨(ad.add (k * d.sz)).block, (ad.add (k * d.sz)).off + j, none⟩) = some u := by
  obtain ⟨ad, c, e, hl, hK, hc⟩ := Kd.C_get h xs[k] (k : Int) (by omega) (by have := h.1; omega)
  simp only [Int.toNat_natCast, List.getD_eq_getElem?_getD, List.getElem?_eq_getElem hk, Option.getD_some] at hK hc
  refine ⟨ad, c, e, hl, hK, fun j u hu => ?_⟩
  have := hc j u hu
  by_cases hj : j = 0
  · subst hj
    rw [if_pos rfl]
    rwa [Nat.add_zero] at this
  · rw [if_neg hj, ← add_field _ _ j (by omega)]
    exact this
theorem CF_get {w : World} {A : Option Addr} {n : Nat} {xs : List Fd} (h : kFd.C w A n xs) (k : Nat) (hk : k < xs.length) :
    ∃ ad v, A = some ad ∧ LstIs w v xs[k].2.2.2.2.2 ∧ w.cell? (ad.add (k * 6)) = some (.string xs[k].1) ∧ w.cell? ⟨(ad.add (k * 6)).block, (ad.add (k * 6)).off + 1, none⟩ = some (.int .i64 xs[k].2.1) ∧ w.cell? ⟨(ad.add (k * 6)).block, (ad.add (k * 6)).off + 2, none⟩ = some (.string xs[k].2.2.1) ∧
      w.cell? ⟨(ad.add (k * 6)).block, (ad.add (k * 6)).off + 3, none⟩ = some (.bool xs[k].2.2.2.1) ∧ w.cell? ⟨(ad.add (k * 6)).block, (ad.add (k * 6)).off + 4, none⟩ = some (.int .i32 xs[k].2.2.2.2.1) ∧ w.cell? ⟨(ad.add (k * 6)).block, (ad.add (k * 6)).off + 5, none⟩ = some v := by
  obtain ⟨ad, c, e, hl, hK, hc⟩ := C_cells h k hk
  obtain ⟨v, rfl, hL⟩ := kFd_open hK
  exact ⟨ad, v, e, hL, hc 0 _ rfl, hc 1 _ rfl, hc 2 _ rfl, hc 3 _ rfl, hc 4 _ rfl, hc 5 _ rfl⟩
theorem CP_get {w : World} {A : Option Addr} {n : Nat} {xs : List Pl} (h : kPl.C w A n xs) (k : Nat) (hk : k < xs.length) :
    ∃ ad v, A = some ad ∧ LstIs w v xs[k].2.2.2.2 ∧ w.cell? (ad.add (k * 5)) = some (.int .i64 xs[k].1) ∧ w.cell? ⟨(ad.add (k * 5)).block, (ad.add (k * 5)).off + 1, none⟩ = some (.string xs[k].2.1) ∧
      w.cell? ⟨(ad.add (k * 5)).block, (ad.add (k * 5)).off + 2, none⟩ = some (.bool xs[k].2.2.1) ∧ w.cell? ⟨(ad.add (k * 5)).block, (ad.add (k * 5)).off + 3, none⟩ = some (.int .i32 xs[k].2.2.2.1) ∧ w.cell? ⟨(ad.add (k * 5)).block, (ad.add (k * 5)).off + 4, none⟩ = some v := by
  obtain ⟨ad, c, e, hl, hK, hc⟩ := C_cells h k hk
  obtain ⟨v, rfl, hL⟩ := kPl_open hK
  exact ⟨ad, v, e, hL, hc 0 _ rfl, hc 1 _ rfl, hc 2 _ rfl, hc 3 _ rfl, hc 4 _ rfl⟩
/-- A plain value as an argument. -/
def plV (x : Pl) (v : Value) : Value := .agg #[.int .i64 x.1, .string x.2.1, .bool x.2.2.1, .int .i32 x.2.2.2.1, v]
def fits1 (x : Pl) : Bool := decide (x.2.1.size ≤ 2147483647) && fits2 x.2.2.2.2
set_option maxRecDepth 100000 in
set_option maxHeartbeats 1000000 in
theorem fits1_any (w : World) (x : Pl) (v : Value) (hL : LstIs w v x.2.2.2.2) :
    Calls Tryz.prog 20 #[.agg #[.int .i64 x.1, .string x.2.1, .bool x.2.2.1, .int .i32 x.2.2.2.1, v]] w fun e w' => e = .returned (.bool (fits1 x)) ∧ Hold w w.heap.size w' [] := by
  obtain ⟨A, c, rfl, hle, hC⟩ := hL.out
  have hu := Tryz.underlying28
  have H0 := Aside0.mk ((Hold.start w).alloc_ (.cells #[.int .i64 x.1, .string x.2.1, .bool x.2.2.1, .int .i32 x.2.2.2.1, .slice A x.2.2.2.2.length c] 28))
  have HC := Aside0.mk (Kd.C_below hC H0.out.below)
  clear hC hL
  by_cases h1 : 2147483647 < x.2.1.size
  · have HF : Aside0 (fits1 x = false) := ⟨by unfold fits1; rw [decide_eq_false (by omega)]; rfl⟩
    go_enter Tryz.func20, Tryz.ntmps20
    go_wp2_with fail
    go_ret
    exact ⟨by rw [HF.out]; rfl, H0.out⟩
  · have h2 : x.2.1.size ≤ 2147483647 := by omega
    have HF : Aside0 (fits1 x = fits2 x.2.2.2.2) := ⟨by unfold fits1; rw [decide_eq_true h2]; rfl⟩
    go_enter Tryz.func20, Tryz.ntmps20
    go_wp2_with fail
    refine (fits2_any _ A _ c _ HC.out).mono ?_
    rintro e w1 ⟨rfl, rfl⟩
    cases hb : fits2 x.2.2.2.2 with
    | true =>
      have HB := Aside0.mk hb
      clear hb
      go_wp2
      go_ret
      exact ⟨by rw [HF.out, HB.out]; rfl, H0.out⟩
    | false =>
      have HB := Aside0.mk hb
      clear hb
      go_wp2
      go_ret
      exact ⟨by rw [HF.out, HB.out]; rfl, H0.out⟩


def moL0 : List ByteArray := [⟨#[]⟩, ⟨#[97, 108, 103]⟩, ⟨#[98, 54, 52]⟩, ⟨#[106, 119, 107]⟩, ⟨#[120, 53, 99]⟩]
def moL1 : List ByteArray := [⟨#[]⟩, ⟨#[97, 108, 103]⟩, ⟨#[97, 112, 117]⟩, ⟨#[97, 112, 118]⟩, ⟨#[101, 110, 99]⟩, ⟨#[101, 112, 107]⟩, ⟨#[106, 119, 107]⟩, ⟨#[120, 53, 99]⟩, ⟨#[122, 105, 112]⟩]
def moL2 : List ByteArray := [⟨#[]⟩, ⟨#[101, 120, 112]⟩, ⟨#[105, 97, 116]⟩, ⟨#[110, 98, 102]⟩]
def moL3 : List ByteArray := [⟨#[97, 100, 100, 114, 101, 115, 115]⟩, ⟨#[98, 105, 114, 116, 104, 100, 97, 116, 101]⟩, ⟨#[117, 112, 100, 97, 116, 101, 100, 95, 97, 116]⟩]
def mapOther (which : Int) (s : ByteArray) : Bool :=
  if which = 0 then sMem s moL0 else if which = 1 then sMem s moL1 else sMem s moL2 || (decide (which = 3) && sMem s moL3)
theorem litS (w : World) (e g : Nat) (hg : w.heap.size = g) (xs : List ByteArray) (hm : xs.length ≤ maxLen) : Kd.string.C (w.alloc (.cells (xs.map fun s => Value.string s).toArray e)) (some ⟨g, 0, none⟩) xs.length xs :=
  C1_lit (enc := fun s => Value.string s) (h1 := fun _ => rfl) w e g hg xs hm
set_option maxHeartbeats 2000000 in
theorem mapOther_any (w : World) (which : Int) (s : ByteArray) :
    Calls Tryz.prog 14 #[.int .i64 which, .string s] w fun e w' => e = .returned (.bool (mapOther which s)) ∧ Hold w w.heap.size w' [] := by
  by_cases h0 : which = 0
  · have HF : Aside0 (mapOther which s = sMem s moL0) := ⟨by unfold mapOther; rw [if_pos h0]⟩
    have H0 := Aside0.mk ((Hold.start w).alloc_ (.cells (moL0.map fun s => Value.string s).toArray 9))
    have e0 : (which == 0) = true := by simpa using h0
    clear h0
    go_enter Tryz.func14, Tryz.ntmps14
    go_wp2_with fail
    refine (sContains_any _ _ _ _ moL0 s (litS w 9 _ rfl moL0 (by decide))).mono ?_
    rintro e w1 ⟨rfl, n, rfl⟩
    go_wp2
    go_ret
    exact ⟨by rw [HF.out]; rfl, H0.out.drewN n⟩
  · by_cases h1 : which = 1
    · have HF : Aside0 (mapOther which s = sMem s moL1) := ⟨by unfold mapOther; rw [if_neg h0, if_pos h1]⟩
      have H0 := Aside0.mk ((Hold.start w).alloc_ (.cells (moL1.map fun s => Value.string s).toArray 9))
      have e0 : (which == 0) = false := by simpa using h0
      have e1 : (which == 1) = true := by simpa using h1
      clear h0 h1
      go_enter Tryz.func14, Tryz.ntmps14
      go_wp2_with fail
      refine (sContains_any _ _ _ _ moL1 s (litS w 9 _ rfl moL1 (by decide))).mono ?_
      rintro e w1 ⟨rfl, n, rfl⟩
      go_wp2
      go_ret
      exact ⟨by rw [HF.out]; rfl, H0.out.drewN n⟩
    · have HF : Aside0 (mapOther which s = (sMem s moL2 || (decide (which = 3) && sMem s moL3))) := ⟨by unfold mapOther; rw [if_neg h0, if_neg h1]⟩
      have H0 := Aside0.mk ((Hold.start w).alloc_ (.cells (moL2.map fun s => Value.string s).toArray 9))
      have e0 : (which == 0) = false := by simpa using h0
      have e1 : (which == 1) = false := by simpa using h1
      clear h0 h1
      go_enter Tryz.func14, Tryz.ntmps14
      go_wp2_with fail
      refine (sContains_any _ _ _ _ moL2 s (litS w 9 _ rfl moL2 (by decide))).mono ?_
      rintro e w1 ⟨rfl, n, rfl⟩
      cases hb : sMem s moL2 with
      | true =>
        have HB := Aside0.mk hb
        clear hb
        go_wp2
        go_ret
        exact ⟨by rw [HF.out, HB.out]; rfl, H0.out.drewN n⟩
      | false =>
        have HB := Aside0.mk hb
        clear hb
        by_cases h3 : which = 3
        · have H3 : Aside0 (decide (which = 3) = true) := ⟨by simpa using h3⟩
          have e3 : (which == 3) = true := by simpa using h3
          clear h3
          have hgs : ((w.alloc (.cells (moL2.map fun s => Value.string s).toArray 9)).drewN n).heap.size = w.heap.size + 1 := by
            rw [World.heap_drewN]
            exact Array.size_push _
          have HG := Aside0.mk hgs
          clear hgs
          go_wp2_with fail
          have hgs := HG.out
          refine (sContains_any _ _ _ _ moL3 s (litS ((w.alloc (.cells (moL2.map fun s => Value.string s).toArray 9)).drewN n) 9 (w.heap.size + 1) hgs moL3 (by decide))).mono ?_
          rintro e w2 ⟨rfl, m, rfl⟩
          go_wp2
          go_ret
          exact ⟨by rw [HF.out, HB.out, H3.out]; rfl, ((H0.out.drewN n).alloc_ (.cells (moL3.map fun s => Value.string s).toArray 9)).drewN m⟩
        · have H3 : Aside0 (decide (which = 3) = false) := ⟨by simpa using h3⟩
          have e3 : (which == 3) = false := by simpa using h3
          clear h3
          go_wp2_with fail
          go_ret
          exact ⟨by rw [HF.out, HB.out, H3.out]; rfl, H0.out.drewN n⟩


def fldShort (which : Int) (f : Fd) : Bool :=
  decide (f.1.size ≤ 100) && decide (f.2.2.1.size ≤ 200) && decide (f.2.2.2.2.2.length ≤ 20) && decide (0 ≤ f.2.1) && decide (f.2.1 ≤ 3) && !mapOther which f.1 && f.2.2.2.2.2.all fun s => decide (s.size ≤ 200)
def mapShortB (which : Int) (xs : List Fd) : Bool := decide (xs.length ≤ 100) && xs.all (fldShort which)
structure ShortTo (which : Int) (xs : List Fd) (k : Nat) : Prop where
  out : ∀ j, (hj : j < xs.length) → j < k → fldShort which xs[j] = true
structure SmallTo (xs : List ByteArray) (k : Nat) : Prop where
  out : ∀ j, (hj : j < xs.length) → j < k → xs[j].size ≤ 200
theorem shortF_true {which : Int} {xs : List Fd} (h : xs.length ≤ 100) (hT : ∀ j, (hj : j < xs.length) → fldShort which xs[j] = true) : mapShortB which xs = true := by
  unfold mapShortB
  rw [decide_eq_true h, Bool.true_and, List.all_eq_true]
  intro x hx
  obtain ⟨j, hj, rfl⟩ := List.getElem_of_mem hx
  exact hT j hj
theorem shortF_false {which : Int} {xs : List Fd} {k : Nat} (hk : k < xs.length) (h : fldShort which xs[k] = false) : mapShortB which xs = false := by
  unfold mapShortB
  rw [Bool.and_eq_false_iff]
  right
  rw [← Bool.not_eq_true, List.all_eq_true]
  intro hT
  rw [hT _ (List.getElem_mem hk)] at h
  exact absurd h (by decide)
theorem fldShort_1 {which : Int} {f : Fd} (h : 100 < f.1.size) : fldShort which f = false := by
  unfold fldShort; rw [decide_eq_false (p := f.1.size ≤ 100) (by omega)]; rfl
theorem fldShort_2 {which : Int} {f : Fd} (h : 200 < f.2.2.1.size) : fldShort which f = false := by
  unfold fldShort; rw [decide_eq_false (p := f.2.2.1.size ≤ 200) (by omega)]; simp
theorem fldShort_3 {which : Int} {f : Fd} (h : 20 < f.2.2.2.2.2.length) : fldShort which f = false := by
  unfold fldShort; rw [decide_eq_false (p := f.2.2.2.2.2.length ≤ 20) (by omega)]; simp
theorem fldShort_4 {which : Int} {f : Fd} (h : f.2.1 < 0) : fldShort which f = false := by
  unfold fldShort; rw [decide_eq_false (p := 0 ≤ f.2.1) (by omega)]; simp
theorem fldShort_5 {which : Int} {f : Fd} (h : 3 < f.2.1) : fldShort which f = false := by
  unfold fldShort; rw [decide_eq_false (p := f.2.1 ≤ 3) (by omega)]; simp
theorem fldShort_6 {which : Int} {f : Fd} (h : mapOther which f.1 = true) : fldShort which f = false := by
  unfold fldShort; rw [h]; simp
theorem fldShort_7 {which : Int} {f : Fd} {j : Nat} (hj : j < f.2.2.2.2.2.length) (h : 200 < f.2.2.2.2.2[j].size) : fldShort which f = false := by
  unfold fldShort
  rw [Bool.and_eq_false_iff]
  right
  rw [← Bool.not_eq_true, List.all_eq_true]
  intro hT
  have := hT _ (List.getElem_mem hj)
  simp at this
  omega
theorem fldShort_8 {which : Int} {f : Fd} (h1 : f.1.size ≤ 100) (h2 : f.2.2.1.size ≤ 200) (h3 : f.2.2.2.2.2.length ≤ 20) (h4 : 0 ≤ f.2.1) (h5 : f.2.1 ≤ 3) (h6 : mapOther which f.1 = false) (h7 : ∀ j, (hj : j < f.2.2.2.2.2.length) → f.2.2.2.2.2[j].size ≤ 200) : fldShort which f = true := by
  unfold fldShort
  rw [decide_eq_true h1, decide_eq_true h2, decide_eq_true h3, decide_eq_true h4, decide_eq_true h5, h6]
  simp only [Bool.not_false, Bool.and_true, Bool.true_and, List.all_eq_true]
  intro x hx
  obtain ⟨j, hj, rfl⟩ := List.getElem_of_mem hx
  exact decide_eq_true (h7 j hj)
theorem ShortTo.step {which : Int} {xs : List Fd} {k : Nat} (h : ShortTo which xs k) (hk : k < xs.length) (h2 : fldShort which xs[k] = true) : ShortTo which xs (k + 1) := ⟨fun j hj hjk => by
  rcases Nat.lt_or_ge j k with h3 | h3
  · exact h.out j hj h3
  · obtain rfl : j = k := by omega
    exact h2⟩
theorem SmallTo.step {xs : List ByteArray} {k : Nat} (h : SmallTo xs k) (hk : k < xs.length) (h2 : xs[k].size ≤ 200) : SmallTo xs (k + 1) := ⟨fun j hj hjk => by
  rcases Nat.lt_or_ge j k with h3 | h3
  · exact h.out j hj h3
  · obtain rfl : j = k := by omega
    exact h2⟩
structure FcIs (w : World) (ad : Addr) (k : Nat) (f : Fd) (A : Option Addr) (c : Nat) : Prop where
  hC : Kd.string.C w A f.2.2.2.2.2.length f.2.2.2.2.2
  hle : f.2.2.2.2.2.length ≤ c
  e0 : w.cell? (ad.add (k * 6)) = some (.string f.1)
  e1 : w.cell? ⟨(ad.add (k * 6)).block, (ad.add (k * 6)).off + 1, none⟩ = some (.int .i64 f.2.1)
  e2 : w.cell? ⟨(ad.add (k * 6)).block, (ad.add (k * 6)).off + 2, none⟩ = some (.string f.2.2.1)
  e3 : w.cell? ⟨(ad.add (k * 6)).block, (ad.add (k * 6)).off + 3, none⟩ = some (.bool f.2.2.2.1)
  e4 : w.cell? ⟨(ad.add (k * 6)).block, (ad.add (k * 6)).off + 4, none⟩ = some (.int .i32 f.2.2.2.2.1)
  e5 : w.cell? ⟨(ad.add (k * 6)).block, (ad.add (k * 6)).off + 5, none⟩ = some (.slice A f.2.2.2.2.2.length c)
theorem FcIs.get {w : World} {B : Option Addr} {n : Nat} {xs : List Fd} (h : kFd.C w B n xs) (k : Nat) (hk : k < xs.length) :
    ∃ ad A c, B = some ad ∧ FcIs w ad k xs[k] A c := by
  obtain ⟨ad, v, e, hL, h0, h1, h2, h3, h4, h5⟩ := CF_get h k hk
  obtain ⟨A, c, rfl, hle, hC⟩ := hL.out
  exact ⟨ad, A, c, e, hC, hle, h0, h1, h2, h3, h4, h5⟩
def fdCells (f : Fd) (A : Option Addr) (c : Nat) : Array Value := #[.string f.1, .int .i64 f.2.1, .string f.2.2.1, .bool f.2.2.2.1, .int .i32 f.2.2.2.2.1, .slice A f.2.2.2.2.2.length c]
set_option maxRecDepth 100000 in
set_option maxHeartbeats 4000000 in
theorem mapShort_any (w : World) (which : Int) (A : Option Addr) (n c : Nat) (xs : List Fd) (hC : kFd.C w A n xs) :
    Calls Tryz.prog 5 #[.int .i64 which, .slice A n c] w fun e w' => e = .returned (.bool (mapShortB which xs)) ∧ Hold w w.heap.size w' [] := by
  obtain rfl := hC.1
  have hx : xs.length ≤ 9223372036854775807 := hC.2.1
  have hu := Tryz.underlying28
  have hu2 := Tryz.underlying30
  by_cases hl : 100 < xs.length
  · have HF : Aside0 (mapShortB which xs = false) := ⟨by unfold mapShortB; rw [decide_eq_false (by omega)]; rfl⟩
    clear hC
    go_enter Tryz.func5, Tryz.ntmps5
    go_wp2
    go_ret
    exact ⟨by rw [HF.out]; rfl, Hold.start w⟩
  · have hl' : xs.length ≤ 100 := by omega
    have HC0 := Aside0.mk hC
    clear hC
    go_enter Tryz.func5, Tryz.ntmps5
    go_wp2
    go_loopw [14] (fun i wr => ∃ k : Nat, k ≤ xs.length ∧ i = .int .i64 k ∧ ShortTo which xs k ∧ Hold w w.heap.size wr []) (fun i _ => xs.length - (intOf i).toNat)
    case atStart => exact ⟨0, Nat.zero_le _, rfl, ⟨fun j _ h => absurd h (Nat.not_lt_zero _)⟩, Hold.start w⟩
    case round =>
      obtain ⟨k, hk, rfl, hT, hR⟩ := hrel
      have HR := Aside0.mk hR
      have HT := Aside0.mk hT
      clear hR hT
      by_cases hlt : k < xs.length
      · obtain ⟨ad, A5, c5, rfl, hf⟩ := FcIs.get (HR.out.C HC0.out) k hlt
        have HRB := Aside0.mk (HR.out.alloc (.cells (fdCells xs[k] A5 c5) 30))
        have HRA := Aside0.mk HRB.out.tail
        have HCA := Aside0.mk (Kd.C_below hf.hC (((Hold.start _).alloc_ (.cells (fdCells xs[k] A5 c5) 30)).below))
        have HCX := Aside0.mk hf.hC
        obtain ⟨_, hle, e0, e1, e2, e3, e4, e5⟩ := hf
        have HFT := Aside0.mk (fun h : fldShort which xs[k] = true => HT.out.step hlt h)
        have HFF := Aside0.mk (fun h : fldShort which xs[k] = false => shortF_false hlt h)
        have hlt2 : k + 1 ≤ xs.length := hlt
        clear HT
        generalize hf : xs[k] = f at *
        clear hf
        by_cases h1 : 100 < f.1.size
        · have HF := Aside0.mk (HFF.out (fldShort_1 h1))
          clear HFF HFT
          go_wp2_with fail
          go_ret
          exact ⟨by rw [HF.out]; rfl, HRA.out⟩
        replace h1 : f.1.size ≤ 100 := by omega
        by_cases h2 : 200 < f.2.2.1.size
        · have HF := Aside0.mk (HFF.out (fldShort_2 h2))
          clear HFF HFT
          go_wp2_with fail
          go_ret
          exact ⟨by rw [HF.out]; rfl, HRA.out⟩
        replace h2 : f.2.2.1.size ≤ 200 := by omega
        by_cases h3 : 20 < f.2.2.2.2.2.length
        · have HF := Aside0.mk (HFF.out (fldShort_3 h3))
          clear HFF HFT
          go_wp2_with fail
          go_ret
          exact ⟨by rw [HF.out]; rfl, HRA.out⟩
        replace h3 : f.2.2.2.2.2.length ≤ 20 := by omega
        by_cases h4 : f.2.1 < 0
        · have HF := Aside0.mk (HFF.out (fldShort_4 h4))
          clear HFF HFT
          go_wp2_with fail
          go_ret
          exact ⟨by rw [HF.out]; rfl, HRA.out⟩
        replace h4 : 0 ≤ f.2.1 := by omega
        by_cases h5 : 3 < f.2.1
        · have HF := Aside0.mk (HFF.out (fldShort_5 h5))
          clear HFF HFT
          go_wp2_with fail
          go_ret
          exact ⟨by rw [HF.out]; rfl, HRA.out⟩
        replace h5 : f.2.1 ≤ 3 := by omega
        go_wp2_with fail
        refine (mapOther_any _ which f.1).mono ?_
        rintro e w2 ⟨rfl, hM⟩
        have HR2 := Aside0.mk (HRA.out.of_below hM.below)
        have HC5 := Aside0.mk ((HRB.out.of_below hM.below).cell 0 rfl 5 (by simp [fdCells]))
        clear HRB
        have HCB := Aside0.mk (Kd.C_below HCA.out hM.below)
        clear hM
        cases hb : mapOther which f.1 with
        | true =>
          have HF := Aside0.mk (HFF.out (fldShort_6 hb))
          clear hb HFF HFT
          go_wp2
          go_ret
          exact ⟨by rw [HF.out]; rfl, HR2.out⟩
        | false =>
          have HB := Aside0.mk hb
          clear hb
          have hc5 : w2.cell? ⟨wr.heap.size, 5, none⟩ = some (.slice A5 f.2.2.2.2.2.length c5) := HC5.out.1
          obtain ⟨L, hL'⟩ : ∃ L, L = f.2.2.2.2.2 := ⟨_, rfl⟩
          have hL : Aside0 (f.2.2.2.2.2 = L) := ⟨hL'.symm⟩
          rw [← hL'] at h3 HCB hc5
          clear hL' HC5
          go_wp2_with fail
          go_loop [58] (fun i => ∃ j : Nat, j ≤ L.length ∧ i = .int .i64 j ∧ SmallTo L j) (fun i => L.length - (intOf i).toNat)
          case atStart => exact ⟨0, Nat.zero_le _, rfl, ⟨fun j _ h => absurd h (Nat.not_lt_zero _)⟩⟩
          case round =>
            obtain ⟨j, hj, rfl, hS⟩ := hrel
            by_cases hjl : j < L.length
            · obtain ⟨a5, rfl, ej⟩ := C1_get HCB.out j hjl
              by_cases h7 : 200 < L[j].size
              · have HF := Aside0.mk (HFF.out (fldShort_7 (f := f) (j := j) (by rw [hL.out]; exact hjl) (by simp only [hL.out]; exact h7)))
                clear HFF HFT hS
                go_wp2
                go_ret
                exact ⟨by rw [HF.out]; rfl, HR2.out⟩
              · have h7' : L[j].size ≤ 200 := by omega
                have HS2 := Aside0.mk (hS.step hjl h7')
                clear hS
                go_wp2
                go_round
                case rel => exact ⟨j + 1, hjl, by go_num, HS2.out⟩
                case measure => simp [intOf]; omega
            · have HS2 := Aside0.mk (HFT.out (fldShort_8 (f := f) h1 h2 (by rw [hL.out]; exact h3) h4 h5 HB.out (fun j hj => by simp only [hL.out]; exact hS.out j (by simpa only [hL.out] using hj) (by simp only [hL.out] at hj; omega))))
              clear hS HFT HFF
              go_wp2
              go_roundw
              case rel => exact ⟨k + 1, hlt2, by go_num, HS2.out, HR2.out⟩
              case measure => simp [intOf]; omega
      · have HF := Aside0.mk (shortF_true hl' (fun j hj => HT.out.out j hj (by omega)))
        clear HT
        go_wp2
        go_ret
        exact ⟨by rw [HF.out]; rfl, HR.out⟩


theorem CK_lit {α : Type} {d : Kd α} (w : World) (e g : Nat) (hg : w.heap.size = g) (xs : List α) (cs : List Value) (hrep : Reps (d.K (w.alloc (.cells cs.toArray e))) d.sz xs cs) (hm : xs.length ≤ 9223372036854775807) :
    d.C (w.alloc (.cells cs.toArray e)) (some ⟨g, 0, none⟩) xs.length xs := by
  subst hg
  have h := OwnRow.lit (e := e) w w.heap.size hrep (Nat.le_refl _) hm
  obtain ⟨A, c, he, _, hC⟩ := h.reads
  injection he with he
  subst he
  exact hC
theorem reps1 {α : Type} {R : α → List Value → Prop} {size : Nat} {x : α} {cs : List Value} (h : R x cs) (hl : cs.length = size) : Reps R size [x] cs := by
  have := (Reps.none R size).snoc h hl
  simpa using this
end Go.Proofs.YtldbelghobohiaaGreat
