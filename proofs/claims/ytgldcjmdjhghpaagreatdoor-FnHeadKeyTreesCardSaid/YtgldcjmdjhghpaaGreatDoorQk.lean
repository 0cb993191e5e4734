/-
  Texts of JSON and what the plain reader makes of them: raw texts, blanks, values, lists, objects. No program in sight.
  More text behind what has been read changes nothing of it; a text that is cut ahead of its end is not read. No program in sight.
  The escape of a character by its number, as the reference writes it: plain. No program in sight.
-/
import Derived.Test.YtgldcjmdjhghpaaGreatDoorQh
namespace Go.Proofs.YtgldcjmdjhghpaaGreatDoor
open Go.RowKit Go.Proofs.YtgldcjmdjhghpaaGreatDoorW.PrintWords Go.ChangeShapes Go.WideShapes
set_option linter.unusedVariables false
set_option linter.unusedSimpArgs false
/-- A text's insides, and what they stand for. -/
inductive Pieces : Bs → Bs → Prop
  | nil : Pieces [] []
  | plain {r v : Bs} (p : Bs) (hp : ∀ c ∈ p, c ≠ 34 ∧ c ≠ 92) (h : Pieces r v) : Pieces (p ++ r) (p ++ v)
  | one {r v : Bs} (x o : UInt8) (h : (x = 34 ∧ o = 34) ∨ (x = 92 ∧ o = 92) ∨ (x = 47 ∧ o = 47) ∨ (x = 98 ∧ o = 8) ∨ (x = 102 ∧ o = 12) ∨ (x = 110 ∧ o = 10) ∨ (x = 114 ∧ o = 13) ∨ (x = 116 ∧ o = 9)) (h : Pieces r v) : Pieces (92 :: x :: r) (o :: v)
  | hex {r v : Bs} (d : Bs) (h4 : d.length = 4) (hx : d.all hexL = true) (hs : isSur (hexV4 d 0) = false) (h : Pieces r v) : Pieces (92 :: 117 :: (d ++ r)) (utf8 (hexV4 d 0) ++ v)
  | pair {r v : Bs} (d e : Bs) (h4 : d.length = 4) (hx : d.all hexL = true) (h4' : e.length = 4) (hx' : e.all hexL = true) (h1 : 55296 ≤ hexV4 d 0) (h2 : hexV4 d 0 < 56320) (h3 : 56320 ≤ hexV4 e 0) (h5 : hexV4 e 0 < 57344) (h : Pieces r v) : Pieces (92 :: 117 :: (d ++ 92 :: 117 :: (e ++ r))) (utf8 (surr (hexV4 d 0) (hexV4 e 0)) ++ v)
theorem noBack_of {p : Bs} (hp : ∀ c ∈ p, c ≠ 34 ∧ c ≠ 92) : ∀ c ∈ p, noBack c = true := fun c hc => bne_iff_ne.2 (hp c hc).2
theorem unescT_plain {p : Bs} (hp : ∀ c ∈ p, noBack c = true) (n : Nat) (r : Bs) : unescT n (p ++ r) = p ++ unescT n r := by
  cases n with
  | zero => rw [unescT, unescT]
  | succ n =>
    rw [unescT, unescT, List.dropWhile_append_of_pos hp, List.takeWhile_append_of_pos hp]
    cases hd : r.dropWhile noBack with
    | nil => rfl
    | cons a q => simp only [List.append_assoc]
theorem wellT_plain {p : Bs} (hp : ∀ c ∈ p, noBack c = true) (n : Nat) (r : Bs) : wellT (n + 1) (p ++ r) = wellT (n + 1) r := by
  rw [wellT, wellT, List.dropWhile_append_of_pos hp]
theorem unescT_back (n : Nat) (c : UInt8) (r : Bs) : unescT (n + 2) (92 :: c :: r) = (escStep c r).1 ++ unescT n (escStep c r).2 := by
  have := unescT_at (n := n + 1) (p := []) (r := c :: r) (by simp)
  rw [List.nil_append, List.nil_append, unescB] at this
  exact this
theorem wellT_back (n : Nat) (c : UInt8) (r : Bs) : wellT (n + 2) (92 :: c :: r) = (okEsc c r && wellT n (escStep c r).2) := by
  have := wellT_at (n := n + 1) (p := []) (r := c :: r) (by simp)
  rw [List.nil_append, wellB] at this
  exact this
theorem take4 {d r : Bs} (h4 : d.length = 4) : (d ++ r).take 4 = d ∧ (d ++ r).drop 4 = r := ⟨List.take_left' h4, List.drop_left' h4⟩
theorem esc117 (r : Bs) : escStep 117 r = if r.length < 4 then ([92, 117], r)
    else match hexN (r.take 4) 0 with
    | none => ([92, 117], r)
    | some x =>
      if isSur x = false then (utf8 x, r.drop 4)
      else if (r.drop 4).length < 6 ∨ (r.drop 4).take 2 ≠ [92, 117] then ([92, 117] ++ r.take 4, r.drop 4)
      else match hexN (((r.drop 4).drop 2).take 4) 0 with
      | none => ([92, 117] ++ r.take 4, r.drop 4)
      | some y => (utf8 (surr x y), (r.drop 4).drop 6) := by
  unfold escStep
  rfl
theorem ok117 (r : Bs) : okEsc 117 r = (decide (4 ≤ r.length) && (r.take 4).all hexL &&
    (!isSur (hexV4 (r.take 4) 0) ||
      (decide (6 ≤ (r.drop 4).length) && decide ((r.drop 4).take 2 = [92, 117]) && (((r.drop 4).drop 2).take 4).all hexL && decide (hexV4 (r.take 4) 0 < 56320) && decide (56320 ≤ hexV4 (((r.drop 4).drop 2).take 4) 0) && decide (hexV4 (((r.drop 4).drop 2).take 4) 0 < 57344)))) := by
  unfold okEsc
  rfl
theorem esc_hex {d r : Bs} (h4 : d.length = 4) (hx : d.all hexL = true) (hs : isSur (hexV4 d 0) = false) : escStep 117 (d ++ r) = (utf8 (hexV4 d 0), r) ∧ okEsc 117 (d ++ r) = true := by
  obtain ⟨e1, e2⟩ := take4 (r := r) h4
  have hl : 4 ≤ (d ++ r).length := by rw [List.length_append]; omega
  constructor
  · rw [esc117, if_neg (by omega), e1, e2, hexN_hexV4 d hx 0]
    simp only [hs, if_true]
  · rw [ok117, e1, hs, hx, decide_eq_true hl]
    rfl
theorem esc_pair {d e r : Bs} (h4 : d.length = 4) (hx : d.all hexL = true) (h4' : e.length = 4) (hx' : e.all hexL = true) (h1 : 55296 ≤ hexV4 d 0) (h2 : hexV4 d 0 < 56320) (h3 : 56320 ≤ hexV4 e 0) (h5 : hexV4 e 0 < 57344) :
    escStep 117 (d ++ 92 :: 117 :: (e ++ r)) = (utf8 (surr (hexV4 d 0) (hexV4 e 0)), r) ∧ okEsc 117 (d ++ 92 :: 117 :: (e ++ r)) = true := by
  obtain ⟨e1, e2⟩ := take4 (r := 92 :: 117 :: (e ++ r)) h4
  have hs : isSur (hexV4 d 0) = true := by unfold isSur; rw [Bool.and_eq_true, decide_eq_true_eq, decide_eq_true_eq]; omega
  have e3 : (e ++ r).take 4 = e := List.take_left' h4'
  have e4 : (92 :: 117 :: (e ++ r)).drop 6 = r := by
    show (e ++ r).drop 4 = r
    exact List.drop_left' h4'
  have e5 : (92 :: 117 :: (e ++ r)).drop 2 = e ++ r := rfl
  have e6 : (92 :: 117 :: (e ++ r)).take 2 = [92, 117] := rfl
  have hl : 4 ≤ (d ++ 92 :: 117 :: (e ++ r)).length := by rw [List.length_append]; omega
  have hl2 : 6 ≤ (92 :: 117 :: (e ++ r)).length := by simp only [List.length_cons, List.length_append]; omega
  constructor
  · rw [esc117, if_neg (by omega), e1, e2, hexN_hexV4 d hx 0]
    simp only [e5, e3, e4, hexN_hexV4 e hx' 0]
    rw [if_neg (by rw [hs]; decide), if_neg (by
      rintro (h | h)
      · omega
      · exact h e6)]
  · rw [ok117, e1, e2, e5, e3, e6, hx, hx', hs, decide_eq_true hl, decide_eq_true hl2, decide_eq_true h2, decide_eq_true h3, decide_eq_true h5]
    rfl
theorem Pieces.run {raw v : Bs} (h : Pieces raw v) : ∀ n, 2 * raw.length + 1 ≤ n → wellT n raw = true ∧ unescT n raw = v := by
  induction h with
  | nil =>
    intro n hn
    obtain ⟨m, rfl⟩ : ∃ m, n = m + 1 := ⟨n - 1, by simp at hn; omega⟩
    exact ⟨by rw [wellT]; rfl, by rw [unescT]; rfl⟩
  | @plain r v p hp h ih =>
    intro n hn
    rw [List.length_append] at hn
    obtain ⟨m, rfl⟩ : ∃ m, n = m + 1 := ⟨n - 1, by omega⟩
    obtain ⟨i1, i2⟩ := ih (m + 1) (by omega)
    exact ⟨by rw [wellT_plain (noBack_of hp)]; exact i1, by rw [unescT_plain (noBack_of hp), i2]⟩
  | @one r v x o hxo h ih =>
    intro n hn
    simp only [List.length_cons] at hn
    obtain ⟨m, rfl⟩ : ∃ m, n = m + 2 := ⟨n - 2, by omega⟩
    obtain ⟨i1, i2⟩ := ih m (by omega)
    rw [unescT_back, wellT_back]
    rcases hxo with ⟨rfl, rfl⟩ | ⟨rfl, rfl⟩ | ⟨rfl, rfl⟩ | ⟨rfl, rfl⟩ | ⟨rfl, rfl⟩ | ⟨rfl, rfl⟩ | ⟨rfl, rfl⟩ | ⟨rfl, rfl⟩
    all_goals exact ⟨by rw [Bool.and_eq_true]; exact ⟨rfl, i1⟩, congrArg (_ :: ·) i2⟩
  | @hex r v d h4 hx hs h ih =>
    intro n hn
    simp only [List.length_cons, List.length_append] at hn
    obtain ⟨m, rfl⟩ : ∃ m, n = m + 2 := ⟨n - 2, by omega⟩
    obtain ⟨i1, i2⟩ := ih m (by omega)
    obtain ⟨q1, q2⟩ := esc_hex (r := r) h4 hx hs
    rw [unescT_back, wellT_back, q1, q2, i2]
    exact ⟨by rw [Bool.and_eq_true]; exact ⟨rfl, i1⟩, rfl⟩
  | @pair r v d e h4 hx h4' hx' h1 h2 h3 h5 h ih =>
    intro n hn
    simp only [List.length_cons, List.length_append] at hn
    obtain ⟨m, rfl⟩ : ∃ m, n = m + 2 := ⟨n - 2, by omega⟩
    obtain ⟨i1, i2⟩ := ih m (by omega)
    obtain ⟨q1, q2⟩ := esc_pair (r := r) h4 hx h4' hx' h1 h2 h3 h5
    rw [unescT_back, wellT_back, q1, q2, i2]
    exact ⟨by rw [Bool.and_eq_true]; exact ⟨rfl, i1⟩, rfl⟩
theorem Pieces.well {raw v : Bs} (h : Pieces raw v) : Well raw := (h.run _ (Nat.le_refl _)).1
theorem Pieces.unesc {raw v : Bs} (h : Pieces raw v) : unesc raw = v := (h.run _ (Nat.le_refl _)).2
theorem scan_plain {p : Bs} (hp : ∀ c ∈ p, c ≠ 34 ∧ c ≠ 92) (r : Bs) : scanStr false (p ++ r) = (scanStr false r).map fun q => (p ++ q.1, q.2) := by
  induction p with
  | nil => rw [List.nil_append]; cases scanStr false r <;> rfl
  | cons c p ih =>
    obtain ⟨h1, h2⟩ := hp c (List.mem_cons_self ..)
    rw [List.cons_append, scanStr, if_neg (fun hh => h1 hh.1), show (c == 92 && !false) = false by simp [h2], ih (fun d hd => hp d (List.mem_cons_of_mem _ hd))]
    cases scanStr false r <;> rfl
theorem scan_back (x : UInt8) (r : Bs) : scanStr false (92 :: x :: r) = (scanStr false r).map fun q => (92 :: x :: q.1, q.2) := by
  rw [scanStr, if_neg (by decide), show ((92 : UInt8) == 92 && !false) = true by rfl, scanStr, if_neg (by simp), show (x == 92 && !true) = false by simp]
  cases scanStr false r <;> rfl
theorem hexL_plain {d : Bs} (h : d.all hexL = true) : ∀ c ∈ d, c ≠ 34 ∧ c ≠ 92 := fun c hc => by
  have := List.all_eq_true.1 h c hc
  constructor
  · rintro rfl; revert this; decide
  · rintro rfl; revert this; decide
theorem Pieces.scan {raw v : Bs} (h : Pieces raw v) (rest : Bs) : scanStr false (raw ++ 34 :: rest) = some (raw, rest) := by
  induction h with
  | nil => rw [List.nil_append, scanStr, if_pos ⟨rfl, rfl⟩]
  | @plain r v p hp h ih => rw [List.append_assoc, scan_plain hp, ih]; rfl
  | @one r v x o hxo h ih => rw [List.cons_append, List.cons_append, scan_back, ih]; rfl
  | @hex r v d h4 hx hs h ih =>
    rw [List.cons_append, List.cons_append, scan_back, List.append_assoc, scan_plain (hexL_plain hx), ih]; rfl
  | @pair r v d e h4 hx h4' hx' h1 h2 h3 h5 h ih =>
    rw [List.cons_append, List.cons_append, scan_back, List.append_assoc, scan_plain (hexL_plain hx), List.cons_append, List.cons_append, scan_back, List.append_assoc, scan_plain (hexL_plain hx'), ih]; rfl
theorem rawKey_raw (s : Bs) : rawKey s = rawStr s := by
  have h1 : s = s.takeWhile plainKey ++ s.dropWhile plainKey := (List.takeWhile_append_dropWhile ..).symm
  have hp : ∀ c ∈ s.takeWhile plainKey, c ≠ 34 ∧ c ≠ 92 := fun c hc => by
    have := List.all_eq_true.1 (List.all_takeWhile (p := plainKey) (l := s)) c hc
    unfold plainKey at this
    rw [Bool.and_eq_true, bne_iff_ne, bne_iff_ne] at this
    exact this
  unfold rawKey
  generalize hq : s.takeWhile plainKey = p at h1 hp
  cases hd : s.dropWhile plainKey with
  | nil =>
    rw [hd] at h1
    show none = scanStr false s
    rw [h1, scan_plain hp, scanStr]
    rfl
  | cons c r =>
    rw [hd] at h1
    show (if c = 34 then some (p, r) else rawStr s) = _
    by_cases hc : c = 34
    · subst hc
      rw [if_pos rfl]
      show _ = scanStr false s
      rw [h1, scan_plain hp, scanStr, if_pos ⟨rfl, rfl⟩]
      show some (p, r) = some (p ++ [], r)
      rw [List.append_nil]
    · rw [if_neg hc]
/-- Blanks alone. -/
def WSs (b : Bs) : Prop := ∀ c ∈ b, isWS c = true
theorem WSs.nil : WSs [] := fun c h => by cases h
theorem skip_blk {b : Bs} (h : WSs b) (r : Bs) : skipWS (b ++ r) = skipWS r := List.dropWhile_append_of_pos h
theorem skip_all {b : Bs} (h : WSs b) : skipWS b = [] := by
  have := skip_blk h []
  rwa [List.append_nil] at this
theorem skip_non {c : UInt8} (r : Bs) (h : isWS c = false) : skipWS (c :: r) = c :: r := by
  unfold skipWS
  rw [List.dropWhile_cons, if_neg (by rw [h]; exact Bool.false_ne_true)]
/-- What may stand behind a number: nothing, or another sign. -/
def Off (r : Bs) : Prop := ∀ c q, r = c :: q → numCh c = false
/-- A text is read as a value. -/
def Reads (v : JV) (t : Bs) (dep : Nat) : Prop := ∀ n d rest, Off rest → 2 * (t.length + rest.length) < n → d + dep < 300 → pVal n d (t ++ rest) = some (v, rest)
/-- A text that begins with no blank. -/
def Hard (t : Bs) : Prop := ∃ c q, t = c :: q ∧ isWS c = false
/-- A text with blanks around it. -/
def ReadsP (v : JV) (u : Bs) (dep : Nat) : Prop := ∃ a t b, u = a ++ t ++ b ∧ WSs a ∧ WSs b ∧ Hard t ∧ Reads v t dep
theorem ws_num {c : UInt8} (h : isWS c = true) : numCh c = false := by
  unfold isWS at h
  simp only [Bool.or_eq_true, beq_iff_eq] at h
  rcases h with ((rfl | rfl) | rfl) | rfl <;> decide
theorem WSs.off {b r : Bs} (hb : WSs b) (hr : Off r) : Off (b ++ r) := by
  cases b with
  | nil => exact hr
  | cons c q =>
    intro c' q' e
    injection e with e1 e2
    subst e1
    exact ws_num (hb c (List.mem_cons_self ..))
theorem ReadsP.read {v : JV} {u : Bs} {dep : Nat} (h : ReadsP v u dep) {n d : Nat} {c : UInt8} {q : Bs} (hc : numCh c = false) (hw : isWS c = false) (hn : 2 * (u.length + (c :: q).length) < n) (hd : d + dep < 300) : ∃ r, pVal n d (skipWS (u ++ c :: q)) = some (v, r) ∧ skipWS r = c :: q := by
  obtain ⟨a, t, b, rfl, ha, hb, ⟨c1, q1, rfl, h1⟩, hr⟩ := h
  refine ⟨b ++ c :: q, ?_, by rw [skip_blk hb, skip_non _ hw]⟩
  rw [List.append_assoc, List.append_assoc, skip_blk ha, List.cons_append, skip_non _ h1]
  have := hr n d (b ++ c :: q) (hb.off (fun c' q' e => by injection e with e1 _; rw [← e1]; exact hc)) (by simp at hn ⊢; omega) hd
  rw [List.cons_append] at this
  exact this
theorem reads_str {raw v : Bs} (h : Pieces raw v) : Reads (.str raw) (34 :: (raw ++ [34])) 0 := by
  intro n d rest _ hn hd
  obtain ⟨m, rfl⟩ : ∃ m, n = m + 1 := ⟨n - 1, by omega⟩
  rw [List.cons_append, pVal, if_neg (by omega), if_neg (by decide), if_neg (by decide), if_pos rfl, rawStr, List.append_assoc]
  show Option.map _ (scanStr false (raw ++ 34 :: rest)) = _
  rw [h.scan]
  rfl
theorem reads_tru : Reads .tru wTRUE 0 := by
  intro n d rest _ hn hd
  obtain ⟨m, rfl⟩ : ∃ m, n = m + 1 := ⟨n - 1, by omega⟩
  show pVal (m + 1) d (116 :: ([114, 117, 101] ++ rest)) = _
  rw [pVal, if_neg (by omega), if_neg (by decide), if_neg (by decide), if_neg (by decide), if_pos rfl]
  rfl
theorem reads_fls : Reads .fls wFALSE 0 := by
  intro n d rest _ hn hd
  obtain ⟨m, rfl⟩ : ∃ m, n = m + 1 := ⟨n - 1, by omega⟩
  show pVal (m + 1) d (102 :: ([97, 108, 115, 101] ++ rest)) = _
  rw [pVal, if_neg (by omega), if_neg (by decide), if_neg (by decide), if_neg (by decide), if_neg (by decide), if_pos rfl]
  rfl
theorem reads_nul : Reads .nul wNULL 0 := by
  intro n d rest _ hn hd
  obtain ⟨m, rfl⟩ : ∃ m, n = m + 1 := ⟨n - 1, by omega⟩
  show pVal (m + 1) d (110 :: ([117, 108, 108] ++ rest)) = _
  rw [pVal, if_neg (by omega), if_neg (by decide), if_neg (by decide), if_neg (by decide), if_neg (by decide), if_neg (by decide), if_pos rfl]
  rfl
/-- A whole number in decimal digits. -/
def Digits (s : Bs) : Prop := s ≠ [] ∧ ∀ c ∈ s, (48 : UInt8) ≤ c ∧ c ≤ 57
theorem digit_num {c : UInt8} (h : (48 : UInt8) ≤ c ∧ c ≤ 57) : numCh c = true := by
  unfold numCh
  simp [h.1, h.2]
theorem digit_ne {c : UInt8} (h : (48 : UInt8) ≤ c ∧ c ≤ 57) (k : UInt8) (hk : k < 48 ∨ 57 < k) : c ≠ k := by
  rintro rfl
  have h1 := UInt8.le_iff_toNat_le.1 h.1
  have h2 := UInt8.le_iff_toNat_le.1 h.2
  rcases hk with hk | hk
  · have := UInt8.lt_iff_toNat_lt.1 hk; omega
  · have := UInt8.lt_iff_toNat_lt.1 hk; omega
theorem off_take {s rest : Bs} (hs : ∀ c ∈ s, numCh c = true) (hr : Off rest) : (s ++ rest).takeWhile numCh = s ∧ (s ++ rest).dropWhile numCh = rest := by
  rw [List.takeWhile_append_of_pos hs, List.dropWhile_append_of_pos hs]
  cases rest with
  | nil => exact ⟨by simp, rfl⟩
  | cons c q =>
    have := hr c q rfl
    exact ⟨by rw [List.takeWhile_cons_of_neg (by rw [this]; exact Bool.false_ne_true), List.append_nil], by rw [List.dropWhile_cons_of_neg (by rw [this]; exact Bool.false_ne_true)]⟩
theorem rawNum_of {s rest : Bs} (hs : ∀ c ∈ s, numCh c = true) (h0 : s ≠ []) (h1 : s ≠ [45]) (h2 : s ≠ [43]) (hr : Off rest) : rawNum (s ++ rest) = some (s, rest) := by
  obtain ⟨e1, e2⟩ := off_take hs hr
  unfold rawNum
  rw [e1, e2]
  by_cases hn : rest = []
  · subst hn
    simp
  · simp only [if_neg hn]
    rw [if_neg (fun h => h.elim h0 (fun h => h.elim h1 h2))]
theorem rawNum_no (c : UInt8) (q : Bs) (hc : numCh c = false) (h1 : lowC c ≠ 105) (h2 : lowC c ≠ 110) : rawNum (c :: q) = none := by
  have hf : ∀ w d : Bs, ∀ a : UInt8, lowC c ≠ a → w = a :: d → foldEq ((c :: q).take 3) w = false := by
    intro w d a ha hw
    cases hh : foldEq ((c :: q).take 3) w with
    | false => rfl
    | true =>
      exfalso
      subst hw
      have : ((c :: q).take 3).map lowC = a :: d := eq_of_beq hh
      rw [show (c :: q).take 3 = c :: q.take 2 from rfl, List.map_cons] at this
      injection this with e _
      exact ha e
  unfold rawNum
  rw [List.takeWhile_cons_of_neg (by rw [hc]; exact Bool.false_ne_true), List.dropWhile_cons_of_neg (by rw [hc]; exact Bool.false_ne_true)]
  simp only
  rw [if_neg (by simp), if_pos (.inl trivial), if_neg (by
    rintro ⟨_, h | h⟩
    · rw [hf sINF [110, 102] 105 h1 rfl] at h; cases h
    · rw [hf sNAN [97, 110] 110 h2 rfl] at h; cases h)]
theorem skip_idem (s : Bs) : skipWS (skipWS s) = skipWS s := by
  induction s with
  | nil => rfl
  | cons c s ih =>
    unfold skipWS at ih ⊢
    rw [List.dropWhile_cons]
    by_cases h : isWS c = true
    · rw [if_pos h]; exact ih
    · rw [if_neg h, List.dropWhile_cons, if_neg h]
theorem reads_num {s : Bs} (h : Digits s) (neg : Bool) : Reads (.num ((if neg then [45] else []) ++ s)) ((if neg then [45] else []) ++ s) 0 := by
  intro n d rest hr hn hd
  obtain ⟨m, rfl⟩ : ∃ m, n = m + 1 := ⟨n - 1, by omega⟩
  obtain ⟨h0, hs⟩ := h
  cases s with
  | nil => exact absurd rfl h0
  | cons c s =>
    have hc := hs c (List.mem_cons_self ..)
    cases neg with
    | false =>
      have hrn := rawNum_of (s := c :: s) (rest := rest) (fun x hx => digit_num (hs x hx)) h0 (fun e => by injection e with e _; exact digit_ne hc 45 (.inl (by decide)) e) (fun e => by injection e with e _; exact digit_ne hc 43 (.inl (by decide)) e) hr
      show pVal (m + 1) d (c :: (s ++ rest)) = _
      rw [pVal, if_neg (by omega), if_neg (digit_ne hc 123 (.inr (by decide))), if_neg (digit_ne hc 91 (.inr (by decide))), if_neg (digit_ne hc 34 (.inl (by decide))), if_neg (digit_ne hc 116 (.inr (by decide))), if_neg (digit_ne hc 102 (.inr (by decide))), if_neg (digit_ne hc 110 (.inr (by decide)))]
      rw [List.cons_append] at hrn
      rw [hrn]
      rfl
    | true =>
      have hrn := rawNum_of (s := 45 :: c :: s) (rest := rest) (fun x hx => by
        rcases List.mem_cons.1 hx with rfl | hx
        · rfl
        · exact digit_num (hs x hx)) (by simp) (by simp) (by simp) hr
      show pVal (m + 1) d (45 :: (c :: s ++ rest)) = _
      rw [pVal, if_neg (by omega), if_neg (by decide), if_neg (by decide), if_neg (by decide), if_neg (by decide), if_neg (by decide), if_neg (by decide)]
      rw [List.cons_append] at hrn
      rw [hrn]
      rfl
/-- Texts with commas between. -/
def commas : List Bs → Bs
  | [] => []
  | [u] => u
  | u :: us => u ++ 44 :: commas us
theorem commas_cons (u v : Bs) (us : List Bs) : commas (u :: v :: us) = u ++ 44 :: commas (v :: us) := rfl
theorem pArr_commas (dep : Nat) : ∀ (l : List (JV × Bs)) (n d : Nat) (acc : List JV) (rest : Bs), l ≠ [] → (∀ p ∈ l, ReadsP p.1 p.2 dep) → 2 * ((commas (l.map (·.2))).length + 1 + rest.length) + 1 < n → d + dep < 300 →
    pArr n d acc (commas (l.map (·.2)) ++ 93 :: rest) = some (.arr (acc ++ l.map (·.1)), rest) := by
  intro l
  induction l with
  | nil => intro n d acc rest h; exact absurd rfl h
  | cons p l ih =>
    intro n d acc rest _ hl hn hd
    obtain ⟨m, rfl⟩ : ∃ m, n = m + 1 := ⟨n - 1, by omega⟩
    have hp := hl p (List.mem_cons_self ..)
    cases l with
    | nil =>
      obtain ⟨r, h1, h2⟩ := hp.read (n := m) (d := d) (c := 93) (q := rest) rfl rfl (by simp [commas] at hn ⊢; omega) hd
      show pArr (m + 1) d acc (p.2 ++ 93 :: rest) = _
      rw [pArr, h1]
      simp only [h2]
      rfl
    | cons p2 l2 =>
      have hcm : commas ((p :: p2 :: l2).map (·.2)) ++ 93 :: rest = p.2 ++ 44 :: (commas ((p2 :: l2).map (·.2)) ++ 93 :: rest) := by
        rw [List.map_cons, List.map_cons, commas_cons, List.append_assoc, List.cons_append]
      have hlen : (commas ((p :: p2 :: l2).map (·.2))).length = p.2.length + 1 + (commas ((p2 :: l2).map (·.2))).length := by
        rw [List.map_cons, List.map_cons, commas_cons, List.length_append, List.length_cons]
        omega
      rw [hlen] at hn
      obtain ⟨r, h1, h2⟩ := hp.read (n := m) (d := d) (c := 44) (q := commas ((p2 :: l2).map (·.2)) ++ 93 :: rest) rfl rfl (by simp only [List.length_cons, List.length_append]; omega) hd
      rw [hcm, pArr, h1]
      simp only [h2]
      rw [if_pos trivial, ih m d (acc ++ [p.1]) rest (by simp) (fun x hx => hl x (List.mem_cons_of_mem _ hx)) (by omega) hd]
      simp
theorem Hard.of {c : UInt8} (r : Bs) (h : isWS c = false) : Hard (c :: r) := ⟨c, r, rfl, h⟩
theorem Hard.append {t : Bs} (h : Hard t) (r : Bs) : Hard (t ++ r) := by
  obtain ⟨c, q, rfl, hc⟩ := h
  exact ⟨c, q ++ r, rfl, hc⟩
/-- What a value's text begins with. -/
theorem reads_head {v : JV} {t : Bs} {dep : Nat} (h : Reads v t dep) (hd : dep < 300) : t ≠ [] := by
  rintro rfl
  have := h 1 0 [] (fun c q e => by cases e) (by simp) (by omega)
  rw [List.nil_append, pVal] at this
  cases this
/-- A value does not begin with the sign of an end. -/
theorem ReadsP.first {v : JV} {u : Bs} {dep : Nat} (h : ReadsP v u dep) (hd : dep < 300) (r : Bs) : ∃ c q, skipWS (u ++ r) = c :: q ∧ c ≠ 93 ∧ c ≠ 125 := by
  obtain ⟨a, t, b, rfl, ha, hb, ⟨c1, q1, rfl, h1⟩, hr⟩ := h
  refine ⟨c1, q1 ++ (b ++ r), ?_, ?_, ?_⟩
  · rw [List.append_assoc, List.append_assoc, skip_blk ha, List.cons_append, skip_non _ h1]
  · rintro rfl
    have := hr (2 * (93 :: q1).length + 1) 0 [] (fun c q e => by cases e) (by simp) (by omega)
    rw [List.append_nil, pVal, if_neg (by omega), if_neg (by decide), if_neg (by decide), if_neg (by decide), if_neg (by decide), if_neg (by decide), if_neg (by decide)] at this
    rw [rawNum_no 93 q1 rfl (by decide) (by decide)] at this
    cases this
  · rintro rfl
    have := hr (2 * (125 :: q1).length + 1) 0 [] (fun c q e => by cases e) (by simp) (by omega)
    rw [List.append_nil, pVal, if_neg (by omega), if_neg (by decide), if_neg (by decide), if_neg (by decide), if_neg (by decide), if_neg (by decide), if_neg (by decide)] at this
    rw [rawNum_no 125 q1 rfl (by decide) (by decide)] at this
    cases this
theorem pArr_skip (n d : Nat) (acc : List JV) (s : Bs) : pArr n d acc (skipWS s) = pArr n d acc s := by
  cases n with
  | zero => rw [pArr, pArr]
  | succ n => rw [pArr, pArr, skip_idem]
theorem pObj_skip (n d : Nat) (acc : List (Bs × JV)) (s : Bs) : pObj n d acc (skipWS s) = pObj n d acc s := by
  cases n with
  | zero => rw [pObj, pObj]
  | succ n => rw [pObj, pObj, skip_idem]
theorem reads_arr0 {b : Bs} (hb : WSs b) : Reads (.arr []) (91 :: (b ++ [93])) 0 := by
  intro n d rest _ hn hd
  obtain ⟨m, rfl⟩ : ∃ m, n = m + 1 := ⟨n - 1, by omega⟩
  rw [List.cons_append, pVal, if_neg (by omega), if_neg (by decide), if_pos rfl, List.append_assoc, skip_blk hb]
  rfl
theorem reads_arr {dep : Nat} {l : List (JV × Bs)} (hl : ∀ p ∈ l, ReadsP p.1 p.2 dep) (h0 : l ≠ []) (hdep : dep < 300) : Reads (.arr (l.map (·.1))) (91 :: (commas (l.map (·.2)) ++ [93])) (dep + 1) := by
  intro n d rest _ hn hd
  obtain ⟨m, rfl⟩ : ∃ m, n = m + 1 := ⟨n - 1, by omega⟩
  rw [List.cons_append, pVal, if_neg (by omega), if_neg (by decide), if_pos rfl, List.append_assoc]
  obtain ⟨c, q, h1, h2, _⟩ : ∃ c q, skipWS (commas (l.map (·.2)) ++ ([93] ++ rest)) = c :: q ∧ c ≠ 93 ∧ c ≠ 125 := by
    cases l with
    | nil => exact absurd rfl h0
    | cons p l =>
      have hp := hl p (List.mem_cons_self ..)
      cases l with
      | nil => exact hp.first hdep _
      | cons p2 l2 =>
        rw [List.map_cons, List.map_cons, commas_cons, List.append_assoc]
        exact hp.first hdep _
  simp only [h1]
  rw [if_neg h2, ← h1, pArr_skip]
  have := pArr_commas dep l m (d + 1) [] rest h0 hl (by simp at hn ⊢; omega) (by omega)
  exact this
/-- A field of an object as a text: blanks, the name, blanks, a colon, the value with blanks. -/
def FieldT (raw : Bs) (v : JV) (u : Bs) (dep : Nat) : Prop := ∃ a val b x, u = a ++ 34 :: (raw ++ 34 :: (b ++ 58 :: x)) ∧ WSs a ∧ WSs b ∧ Pieces raw val ∧ ReadsP v x dep
theorem pObj_commas (dep : Nat) : ∀ (l : List ((Bs × JV) × Bs)) (n d : Nat) (acc : List (Bs × JV)) (rest : Bs), l ≠ [] → (∀ p ∈ l, FieldT p.1.1 p.1.2 p.2 dep) → 2 * ((commas (l.map (·.2))).length + 1 + rest.length) + 1 < n → d + dep < 300 →
    pObj n d acc (commas (l.map (·.2)) ++ 125 :: rest) = some (.obj (acc ++ l.map (·.1)), rest) := by
  intro l
  induction l with
  | nil => intro n d acc rest h; exact absurd rfl h
  | cons p l ih =>
    intro n d acc rest _ hl hn hd
    obtain ⟨m, rfl⟩ : ∃ m, n = m + 1 := ⟨n - 1, by omega⟩
    obtain ⟨⟨raw, v⟩, u⟩ := p
    obtain ⟨a, val, b, x, hu, ha, hb, hP, hx⟩ := hl _ (List.mem_cons_self ..)
    replace hu : u = a ++ 34 :: (raw ++ 34 :: (b ++ 58 :: x)) := hu
    have hlu : u.length = a.length + raw.length + b.length + x.length + 3 := by rw [hu]; simp; omega
    have hstep : ∀ (c : UInt8) (q : Bs), numCh c = false → isWS c = false → 2 * (u.length + (c :: q).length) < m + 1 → pObj (m + 1) d acc (u ++ c :: q) = if c = 44 then pObj m d (acc ++ [(raw, v)]) q else if c = 125 then some (.obj (acc ++ [(raw, v)]), q) else none := by
      intro c q hc hw hm
      obtain ⟨r, h1, h2⟩ := hx.read (n := m) (d := d) (c := c) (q := q) hc hw (by simp only [List.length_cons] at hm ⊢; omega) hd
      have e1 : skipWS (u ++ c :: q) = 34 :: (raw ++ 34 :: (b ++ 58 :: (x ++ c :: q))) := by
        rw [hu]
        simp only [List.append_assoc, List.cons_append]
        rw [skip_blk ha, skip_non _ rfl]
      have e2 : rawKey (raw ++ 34 :: (b ++ 58 :: (x ++ c :: q))) = some (raw, b ++ 58 :: (x ++ c :: q)) := by rw [rawKey_raw]; exact hP.scan _
      have e3 : skipWS (b ++ 58 :: (x ++ c :: q)) = 58 :: (x ++ c :: q) := by rw [skip_blk hb, skip_non _ rfl]
      rw [pObj, e1]
      simp only [ne_eq, not_true_eq_false, if_false, e2, e3, h1, h2]
    cases l with
    | nil =>
      show pObj (m + 1) d acc (u ++ 125 :: rest) = _
      rw [hstep 125 rest rfl rfl (by simp [commas] at hn ⊢; omega), if_neg (by decide), if_pos rfl]
      rfl
    | cons p2 l2 =>
      have hcm : commas ((((raw, v), u) :: p2 :: l2).map (·.2)) ++ 125 :: rest = u ++ 44 :: (commas ((p2 :: l2).map (·.2)) ++ 125 :: rest) := by
        rw [List.map_cons, List.map_cons, commas_cons, List.append_assoc, List.cons_append]
      have hlen : (commas ((((raw, v), u) :: p2 :: l2).map (·.2))).length = u.length + 1 + (commas ((p2 :: l2).map (·.2))).length := by
        rw [List.map_cons, List.map_cons, commas_cons, List.length_append, List.length_cons]
        show u.length + (_ + 1) = u.length + 1 + _
        omega
      rw [hlen] at hn
      rw [hcm, hstep 44 _ rfl rfl (by simp only [List.length_cons, List.length_append]; omega), if_pos rfl, ih m d (acc ++ [(raw, v)]) rest (by simp) (fun x hx => hl x (List.mem_cons_of_mem _ hx)) (by omega) hd]
      simp
theorem reads_obj0 {b : Bs} (hb : WSs b) : Reads (.obj []) (123 :: (b ++ [125])) 0 := by
  intro n d rest _ hn hd
  obtain ⟨m, rfl⟩ : ∃ m, n = m + 1 := ⟨n - 1, by omega⟩
  rw [List.cons_append, pVal, if_neg (by omega), if_pos rfl, List.append_assoc, skip_blk hb]
  rfl
theorem reads_obj {dep : Nat} {l : List ((Bs × JV) × Bs)} (hl : ∀ p ∈ l, FieldT p.1.1 p.1.2 p.2 dep) (h0 : l ≠ []) : Reads (.obj (l.map (·.1))) (123 :: (commas (l.map (·.2)) ++ [125])) (dep + 1) := by
  intro n d rest _ hn hd
  obtain ⟨m, rfl⟩ : ∃ m, n = m + 1 := ⟨n - 1, by omega⟩
  rw [List.cons_append, pVal, if_neg (by omega), if_pos rfl, List.append_assoc]
  obtain ⟨q, h1⟩ : ∃ q, skipWS (commas (l.map (·.2)) ++ ([125] ++ rest)) = 34 :: q := by
    cases l with
    | nil => exact absurd rfl h0
    | cons p l =>
      obtain ⟨a, val, b, x, hu, ha, hb, hP, hx⟩ := hl p (List.mem_cons_self ..)
      have hf : ∀ r, ∃ q, skipWS (p.2 ++ r) = 34 :: q := fun r => by
        rw [hu]
        simp only [List.append_assoc, List.cons_append]
        exact ⟨_, by rw [skip_blk ha, skip_non _ rfl]⟩
      cases l with
      | nil => exact hf _
      | cons p2 l2 =>
        rw [List.map_cons, List.map_cons, commas_cons, List.append_assoc]
        exact hf _
  simp only [h1]
  rw [if_neg (by decide), ← h1, pObj_skip]
  exact pObj_commas dep l m (d + 1) [] rest h0 hl (by simp at hn ⊢; omega) (by omega)
theorem pTop_of {v : JV} {u : Bs} {dep : Nat} (h : ReadsP v u dep) (hd : dep < 300) : pTop u = some v := by
  obtain ⟨a, t, b, rfl, ha, hb, ⟨c1, q1, rfl, h1⟩, hr⟩ := h
  have e1 : skipWS (a ++ (c1 :: q1) ++ b) = (c1 :: q1) ++ b := by rw [List.append_assoc, skip_blk ha, List.cons_append, skip_non _ h1]
  have hob : Off b := by
    have := hb.off (r := []) (fun c q e => by cases e)
    rwa [List.append_nil] at this
  unfold pTop
  rw [e1, hr _ 0 b hob (by simp; omega) (by omega)]
  simp only
  rw [if_pos (skip_all hb)]
end Go.Proofs.YtgldcjmdjhghpaaGreatDoor
namespace Go.Proofs.YtgldcjmdjhghpaaGreatDoor
open Go.RowKit Go.Proofs.YtgldcjmdjhghpaaGreatDoorW.PrintWords Go.ChangeShapes Go.WideShapes
set_option linter.unusedVariables false
set_option linter.unusedSimpArgs false
theorem scan_ext : ∀ (s : Bs) (e : Bool) (a r x : Bs), scanStr e s = some (a, r) → scanStr e (s ++ x) = some (a, r ++ x) := by
  intro s
  induction s with
  | nil => intro e a r x h; rw [scanStr] at h; cases h
  | cons c s ih =>
    intro e a r x h
    rw [scanStr] at h
    rw [List.cons_append, scanStr]
    by_cases hc : c = 34 ∧ e = false
    · rw [if_pos hc] at h ⊢
      injection h with h
      injection h with h1 h2
      rw [← h1, ← h2]
    · rw [if_neg hc] at h ⊢
      cases hs : scanStr (c == 92 && !e) s with
      | none => rw [hs] at h; cases h
      | some q =>
        rw [hs] at h
        injection h with h
        injection h with h1 h2
        rw [ih _ q.1 q.2 x hs, ← h1, ← h2]
        rfl
theorem skip_ext {s q : Bs} {c : UInt8} (h : skipWS s = c :: q) (x : Bs) : skipWS (s ++ x) = c :: (q ++ x) := by
  induction s with
  | nil => cases h
  | cons b s ih =>
    unfold skipWS at h ih ⊢
    rw [List.cons_append, List.dropWhile_cons]
    rw [List.dropWhile_cons] at h
    by_cases hb : isWS b = true
    · rw [if_pos hb] at h ⊢
      exact ih h
    · rw [if_neg hb] at h ⊢
      injection h with h1 h2
      rw [h1, h2]
theorem take_ext {s w : Bs} {k : Nat} (h : s.take k = w) (hw : w.length = k) (x : Bs) : (s ++ x).take k = w ∧ (s ++ x).drop k = s.drop k ++ x := by
  have hk : k ≤ s.length := by
    have := congrArg List.length h
    rw [List.length_take] at this
    omega
  exact ⟨by rw [List.take_append_of_le_length hk]; exact h, List.drop_append_of_le_length hk⟩
theorem rawNum_ext {s a r : Bs} (h : rawNum s = some (a, r)) (hr : r ≠ []) (x : Bs) : rawNum (s ++ x) = some (a, r ++ x) := by
  have h1 : s = s.takeWhile numCh ++ s.dropWhile numCh := (List.takeWhile_append_dropWhile ..).symm
  have hp : ∀ c ∈ s.takeWhile numCh, numCh c = true := fun c hc => List.all_eq_true.1 (List.all_takeWhile (p := numCh) (l := s)) c hc
  unfold rawNum at h
  generalize hp1 : s.takeWhile numCh = p at h1 h hp
  cases hd : s.dropWhile numCh with
  | nil =>
    rw [hd] at h
    simp only [if_true] at h
    injection h with h
    injection h with _ h2
    exact absurd h2.symm hr
  | cons c q =>
    have hc : numCh c = false := by
      have hne : s.dropWhile numCh ≠ [] := by rw [hd]; simp
      have := List.head_dropWhile_not numCh hne
      simpa [hd] using this
    rw [hd] at h h1
    have e1 : (s ++ x).takeWhile numCh = p := by
      rw [h1, List.append_assoc, List.takeWhile_append_of_pos hp, List.cons_append, List.takeWhile_cons_of_neg (by rw [hc]; exact Bool.false_ne_true), List.append_nil]
    have e2 : (s ++ x).dropWhile numCh = c :: (q ++ x) := by
      rw [h1, List.append_assoc, List.dropWhile_append_of_pos hp, List.cons_append, List.dropWhile_cons_of_neg (by rw [hc]; exact Bool.false_ne_true)]
    unfold rawNum
    rw [e1, e2]
    simp only [if_neg (show ¬ (c :: q) = [] by simp)] at h
    simp only [if_neg (show ¬ (c :: (q ++ x)) = [] by simp)]
    by_cases h5 : p = [] ∨ p = [45] ∨ p = [43]
    · rw [if_pos h5] at h ⊢
      by_cases h6 : 3 ≤ (c :: q).length ∧ (foldEq ((c :: q).take 3) sINF = true ∨ foldEq ((c :: q).take 3) sNAN = true)
      · rw [if_pos h6] at h
        have h7 := List.take_append_of_le_length (l₂ := x) h6.1
        have h8 := List.drop_append_of_le_length (l₂ := x) h6.1
        rw [List.cons_append] at h7 h8
        rw [if_pos (by rw [h7]; exact ⟨by have := h6.1; simp at this ⊢; omega, h6.2⟩), h7, h8]
        injection h with h
        injection h with h9 h10
        rw [← h9, ← h10]
      · rw [if_neg h6] at h
        cases h
    · rw [if_neg h5] at h ⊢
      injection h with h
      injection h with h9 h10
      rw [← h9, ← h10]
      rfl
theorem pArr_arr : ∀ (n d : Nat) (acc : List JV) (s : Bs) (v : JV) (r : Bs), pArr n d acc s = some (v, r) → ∃ xs, v = .arr xs := by
  intro n
  induction n with
  | zero => intro d acc s v r h; rw [pArr] at h; cases h
  | succ n ih =>
    intro d acc s v r h
    rw [pArr] at h
    cases hv : pVal n d (skipWS s) with
    | none => rw [hv] at h; cases h
    | some p =>
      rw [hv] at h
      obtain ⟨v1, r1⟩ := p
      simp only at h
      cases hs : skipWS r1 with
      | nil => rw [hs] at h; cases h
      | cons c r' =>
        rw [hs] at h
        simp only at h
        by_cases h1 : c = 44
        · rw [if_pos h1] at h
          exact ih _ _ _ _ _ h
        · rw [if_neg h1] at h
          by_cases h2 : c = 93
          · rw [if_pos h2] at h
            injection h with h
            injection h with h _
            exact ⟨_, h.symm⟩
          · rw [if_neg h2] at h
            cases h
theorem pObj_obj : ∀ (n d : Nat) (acc : List (Bs × JV)) (s : Bs) (v : JV) (r : Bs), pObj n d acc s = some (v, r) → ∃ xs, v = .obj xs := by
  intro n
  induction n with
  | zero => intro d acc s v r h; rw [pObj] at h; cases h
  | succ n ih =>
    intro d acc s v r h
    rw [pObj] at h
    split at h
    · cases h
    · split at h
      · cases h
      · split at h
        · cases h
        · split at h
          · cases h
          · split at h
            · cases h
            · split at h
              · cases h
              · split at h
                · cases h
                · split at h
                  · exact ih _ _ _ _ _ h
                  · split at h
                    · injection h with h
                      injection h with h _
                      exact ⟨_, h.symm⟩
                    · cases h
theorem p_ext : ∀ n, (∀ (m d : Nat) (s : Bs) (v : JV) (r x : Bs), n ≤ m → pVal n d s = some (v, r) → (r ≠ [] ∨ ∀ a, v ≠ .num a) → pVal m d (s ++ x) = some (v, r ++ x)) ∧
    (∀ (m d : Nat) (acc : List JV) (s : Bs) (v : JV) (r x : Bs), n ≤ m → pArr n d acc s = some (v, r) → pArr m d acc (s ++ x) = some (v, r ++ x)) ∧
    (∀ (m d : Nat) (acc : List (Bs × JV)) (s : Bs) (v : JV) (r x : Bs), n ≤ m → pObj n d acc s = some (v, r) → pObj m d acc (s ++ x) = some (v, r ++ x)) := by
  intro n
  induction n with
  | zero =>
    refine ⟨fun m d s v r x _ h => ?_, fun m d acc s v r x _ h => ?_, fun m d acc s v r x _ h => ?_⟩
    · rw [pVal] at h; cases h
    · rw [pArr] at h; cases h
    · rw [pObj] at h; cases h
  | succ n ih =>
    obtain ⟨ihV, ihA, ihO⟩ := ih
    refine ⟨fun m d s v r x hm h hx => ?_, fun m d acc s v r x hm h => ?_, fun m d acc s v r x hm h => ?_⟩
    · obtain ⟨m, rfl⟩ : ∃ k, m = k + 1 := ⟨m - 1, by omega⟩
      have hm : n ≤ m := by omega
      cases s with
      | nil => rw [pVal] at h; cases h
      | cons c q =>
        rw [pVal] at h
        rw [List.cons_append, pVal]
        by_cases hd : 300 ≤ d
        · rw [if_pos hd] at h; cases h
        rw [if_neg hd] at h ⊢
        by_cases h1 : c = 123
        · rw [if_pos h1] at h ⊢
          cases hs : skipWS q with
          | nil => rw [hs] at h; cases h
          | cons c' r' =>
            rw [hs] at h
            rw [skip_ext hs x]
            simp only at h ⊢
            by_cases h2 : c' = 125
            · rw [if_pos h2] at h ⊢
              injection h with h
              injection h with h3 h4
              rw [← h3, ← h4]
            · rw [if_neg h2] at h ⊢
              exact ihO m (d + 1) [] (c' :: r') v r x hm h
        rw [if_neg h1] at h ⊢
        by_cases h1 : c = 91
        · rw [if_pos h1] at h ⊢
          cases hs : skipWS q with
          | nil => rw [hs] at h; cases h
          | cons c' r' =>
            rw [hs] at h
            rw [skip_ext hs x]
            simp only at h ⊢
            by_cases h2 : c' = 93
            · rw [if_pos h2] at h ⊢
              injection h with h
              injection h with h3 h4
              rw [← h3, ← h4]
            · rw [if_neg h2] at h ⊢
              exact ihA m (d + 1) [] (c' :: r') v r x hm h
        rw [if_neg h1] at h ⊢
        by_cases h1 : c = 34
        · rw [if_pos h1] at h ⊢
          unfold rawStr at h ⊢
          cases hs : scanStr false q with
          | none => rw [hs] at h; cases h
          | some p =>
            rw [hs] at h
            rw [scan_ext q false p.1 p.2 x hs]
            injection h with h
            injection h with h3 h4
            rw [← h3, ← h4]
            rfl
        rw [if_neg h1] at h ⊢
        by_cases h1 : c = 116
        · rw [if_pos h1] at h ⊢
          by_cases h2 : (c :: q).take 4 = wTRUE
          · rw [if_pos h2] at h
            have h5 := take_ext h2 rfl x
            rw [List.cons_append] at h5
            rw [if_pos h5.1, h5.2]
            injection h with h
            injection h with h3 h4
            rw [← h3, ← h4]
          · rw [if_neg h2] at h; cases h
        rw [if_neg h1] at h ⊢
        by_cases h1 : c = 102
        · rw [if_pos h1] at h ⊢
          by_cases h2 : (c :: q).take 5 = wFALSE
          · rw [if_pos h2] at h
            have h5 := take_ext h2 rfl x
            rw [List.cons_append] at h5
            rw [if_pos h5.1, h5.2]
            injection h with h
            injection h with h3 h4
            rw [← h3, ← h4]
          · rw [if_neg h2] at h; cases h
        rw [if_neg h1] at h ⊢
        by_cases h1 : c = 110
        · rw [if_pos h1] at h ⊢
          by_cases h2 : (c :: q).take 4 = wNULL
          · rw [if_pos h2] at h
            have h5 := take_ext h2 rfl x
            rw [List.cons_append] at h5
            rw [if_pos h5.1, h5.2]
            injection h with h
            injection h with h3 h4
            rw [← h3, ← h4]
          · rw [if_neg h2] at h
            by_cases h6 : 3 ≤ (c :: q).length ∧ foldEq ((c :: q).take 3) sNAN = true
            · rw [if_pos h6] at h
              injection h with h
              injection h with h3 h4
              have hlen : 3 < (c :: q).length := by
                rcases hx with hx | hx
                · rcases Nat.lt_or_ge 3 (c :: q).length with h9 | h9
                  · exact h9
                  · exact absurd (h4.symm.trans (List.drop_of_length_le h9)) hx
                · exact absurd h3.symm (hx _)
              have h7 := List.take_append_of_le_length (l₂ := x) h6.1
              have h8 := List.drop_append_of_le_length (l₂ := x) h6.1
              have h10 := List.take_append_of_le_length (l₂ := x) (show 4 ≤ (c :: q).length from hlen)
              rw [List.cons_append] at h7 h8 h10
              rw [if_neg (by rw [h10]; exact h2), if_pos (by rw [h7]; exact ⟨by have := h6.1; simp at this ⊢; omega, h6.2⟩), h7, h8, ← h3, ← h4]
            · rw [if_neg h6] at h; cases h
        rw [if_neg h1] at h ⊢
        cases hs : rawNum (c :: q) with
        | none => rw [hs] at h; cases h
        | some p =>
          rw [hs] at h
          obtain ⟨p1, p2⟩ := p
          injection h with h
          injection h with h3 h4
          have hp : p2 ≠ [] := by
            rcases hx with hx | hx
            · rw [show p2 = r from h4]; exact hx
            · exact absurd h3.symm (hx _)
          have h5 := rawNum_ext hs hp x
          rw [List.cons_append] at h5
          rw [h5, ← h3, ← h4]
          rfl
    · obtain ⟨m, rfl⟩ : ∃ k, m = k + 1 := ⟨m - 1, by omega⟩
      have hm : n ≤ m := by omega
      rw [pArr] at h ⊢
      cases hv : pVal n d (skipWS s) with
      | none => rw [hv] at h; cases h
      | some p =>
        rw [hv] at h
        obtain ⟨v1, r1⟩ := p
        simp only at h
        cases hs : skipWS s with
        | nil =>
          rw [hs] at hv
          cases n with
          | zero => rw [pVal] at hv; cases hv
          | succ n => rw [pVal] at hv; cases hv
        | cons c0 q0 =>
          cases hs1 : skipWS r1 with
          | nil => rw [hs1] at h; cases h
          | cons c r' =>
            rw [hs1] at h
            simp only at h
            have hr1 : r1 ≠ [] := by rintro rfl; cases hs1
            have e1 := ihV m d (skipWS s) v1 r1 x hm hv (.inl hr1)
            rw [hs, List.cons_append] at e1
            rw [skip_ext hs x, e1]
            simp only [skip_ext hs1 x]
            by_cases h1 : c = 44
            · rw [if_pos h1] at h ⊢
              exact ihA m d _ r' v r x hm h
            · rw [if_neg h1] at h ⊢
              by_cases h2 : c = 93
              · rw [if_pos h2] at h ⊢
                injection h with h
                injection h with h3 h4
                rw [← h3, ← h4]
              · rw [if_neg h2] at h; cases h
    · obtain ⟨m, rfl⟩ : ∃ k, m = k + 1 := ⟨m - 1, by omega⟩
      have hm : n ≤ m := by omega
      rw [pObj] at h ⊢
      cases hs : skipWS s with
      | nil => rw [hs] at h; cases h
      | cons c q =>
        rw [hs] at h
        rw [skip_ext hs x]
        simp only at h ⊢
        by_cases h1 : c = 34
        · rw [if_neg (fun hh => hh h1)] at h ⊢
          cases hk : rawKey q with
          | none => rw [hk] at h; cases h
          | some p =>
            rw [hk] at h
            obtain ⟨k, r1⟩ := p
            have hk2 : rawKey (q ++ x) = some (k, r1 ++ x) := by
              rw [rawKey_raw] at hk ⊢
              exact scan_ext q false k r1 x hk
            rw [hk2]
            simp only at h ⊢
            cases hs1 : skipWS r1 with
            | nil => rw [hs1] at h; cases h
            | cons c1 r2 =>
              rw [hs1] at h
              rw [skip_ext hs1 x]
              simp only at h ⊢
              by_cases h2 : c1 = 58
              · rw [if_neg (fun hh => hh h2)] at h ⊢
                cases hv : pVal n d (skipWS r2) with
                | none => rw [hv] at h; cases h
                | some p =>
                  rw [hv] at h
                  obtain ⟨v1, r3⟩ := p
                  simp only at h
                  cases hs2 : skipWS r2 with
                  | nil =>
                    rw [hs2] at hv
                    cases n with
                    | zero => rw [pVal] at hv; cases hv
                    | succ n => rw [pVal] at hv; cases hv
                  | cons c0 q0 =>
                    cases hs3 : skipWS r3 with
                    | nil => rw [hs3] at h; cases h
                    | cons c2 r4 =>
                      rw [hs3] at h
                      simp only at h
                      have hr3 : r3 ≠ [] := by rintro rfl; cases hs3
                      have e1 := ihV m d (skipWS r2) v1 r3 x hm hv (.inl hr3)
                      rw [hs2, List.cons_append] at e1
                      rw [skip_ext hs2 x, e1]
                      simp only [skip_ext hs3 x]
                      by_cases h3 : c2 = 44
                      · rw [if_pos h3] at h ⊢
                        exact ihO m d _ r4 v r x hm h
                      · rw [if_neg h3] at h ⊢
                        by_cases h4 : c2 = 125
                        · rw [if_pos h4] at h ⊢
                          injection h with h
                          injection h with h5 h6
                          rw [← h5, ← h6]
                        · rw [if_neg h4] at h; cases h
              · rw [if_pos h2] at h; cases h
        · rw [if_pos h1] at h; cases h
/-- A text of an object that is cut ahead of its end is not read. -/
theorem pTop_cut {kvs : List (Bs × JV)} {a q b p x : Bs} {dep : Nat} (ha : WSs a) (hb : WSs b) (hr : Reads (.obj kvs) (123 :: q) dep) (hd : dep < 300) (he : p ++ x = a ++ (123 :: q) ++ b) (hx : (125 : UInt8) ∈ x) : pTop p = none := by
  unfold pTop
  have hob : Off b := by
    have := hb.off (r := []) (fun c q e => by cases e)
    rwa [List.append_nil] at this
  have hT : skipWS (p ++ x) = 123 :: (q ++ b) := by rw [he, List.append_assoc, skip_blk ha, List.cons_append, skip_non _ rfl]
  cases hv : pVal (2 * (skipWS p).length + 2) 0 (skipWS p) with
  | none => rfl
  | some w =>
    obtain ⟨v, r⟩ := w
    simp only
    by_cases hr0 : skipWS r = []
    · exfalso
      cases hs : skipWS p with
      | nil => rw [hs, pVal] at hv; cases hv
      | cons c q1 =>
        have e0 := skip_ext hs x
        rw [hT] at e0
        injection e0 with e1 e2
        subst e1
        have hvo : ∀ y, v ≠ .num y := by
          rw [hs, pVal, if_neg (by omega), if_pos rfl] at hv
          split at hv
          · cases hv
          · split at hv
            · injection hv with hv
              injection hv with hv _
              intro y e
              rw [← hv] at e
              cases e
            · obtain ⟨kv, rfl⟩ := pObj_obj _ _ _ _ _ _ hv
              intro y e
              cases e
        rw [hs] at hv
        have h1 := (p_ext _).1 (2 * (123 :: q1).length + 2 + 2 * ((123 :: q).length + b.length) + 2) 0 _ v r x (by omega) hv (.inr hvo)
        have h2 := hr (2 * (123 :: q1).length + 2 + 2 * ((123 :: q).length + b.length) + 2) 0 b hob (by omega) (by omega)
        rw [List.cons_append, ← e2, ← List.cons_append, h2] at h1
        injection h1 with h1
        injection h1 with _ h1
        have : (125 : UInt8) ∈ b := by rw [h1]; exact List.mem_append_right _ hx
        have := hb _ this
        cases this
    · rw [if_neg hr0]
end Go.Proofs.YtgldcjmdjhghpaaGreatDoor
namespace Go.Proofs.YtgldcjmdjhghpaaGreatDoor
open Go.RowKit Go.Proofs.YtgldcjmdjhghpaaGreatDoorW.PrintWords Go.ChangeShapes Go.WideShapes
set_option linter.unusedVariables false
set_option linter.unusedSimpArgs false
def hxD (d : Nat) : UInt8 := if d < 10 then UInt8.ofNat (48 + d) else UInt8.ofNat (87 + d)
/-- Four hexadecimal digits of a number. -/
def hex4 (n : Nat) : Bs := [hxD (n / 4096 % 16), hxD (n / 256 % 16), hxD (n / 16 % 16), hxD (n % 16)]
def hexE (n : Nat) : Bs := 92 :: 117 :: hex4 n
/-- The escape of a character (two of them above 16 bits). -/
def escN (c : Nat) : Bs := if 65536 ≤ c then hexE (0xd800 + (c - 65536) / 1024) ++ hexE (0xdc00 + (c - 65536) % 1024) else hexE c
theorem hxD_all : ∀ d : Fin 16, hexL (hxD d.val) = true ∧ hexD (hxD d.val) = d.val := by decide
theorem hexV4_hex4 (n : Nat) (h : n < 65536) : hexV4 (hex4 n) 0 = n ∧ (hex4 n).all hexL = true ∧ (hex4 n).length = 4 := by
  have h1 := hxD_all ⟨n / 4096 % 16, by omega⟩
  have h2 := hxD_all ⟨n / 256 % 16, by omega⟩
  have h3 := hxD_all ⟨n / 16 % 16, by omega⟩
  have h4 := hxD_all ⟨n % 16, by omega⟩
  refine ⟨?_, ?_, rfl⟩
  · unfold hex4
    simp only [hexV4, h1.2, h2.2, h3.2, h4.2]
    omega
  · unfold hex4
    simp only [List.all_cons, List.all_nil, h1.1, h2.1, h3.1, h4.1]
    rfl
theorem escN_pieces {c : Nat} (h : c < 0x110000) (hs : isSur c = false) {r v : Bs} (hp : Pieces r v) : Pieces (escN c ++ r) (utf8 c ++ v) := by
  unfold escN
  by_cases h1 : 65536 ≤ c
  · rw [if_pos h1]
    obtain ⟨a1, a2, a3⟩ := hexV4_hex4 (0xd800 + (c - 65536) / 1024) (by omega)
    obtain ⟨b1, b2, b3⟩ := hexV4_hex4 (0xdc00 + (c - 65536) % 1024) (by omega)
    have := Pieces.pair (hex4 (0xd800 + (c - 65536) / 1024)) (hex4 (0xdc00 + (c - 65536) % 1024)) a3 a2 b3 b2 (by rw [a1]; omega) (by rw [a1]; omega) (by rw [b1]; omega) (by rw [b1]; omega) hp
    rw [a1, b1] at this
    have hq : surr (0xd800 + (c - 65536) / 1024) (0xdc00 + (c - 65536) % 1024) = c := by
      unfold surr
      rw [if_pos (by omega)]
      omega
    rw [hq] at this
    unfold hexE
    simpa only [List.append_assoc, List.cons_append] using this
  · rw [if_neg h1]
    obtain ⟨a1, a2, a3⟩ := hexV4_hex4 c (by omega)
    have := Pieces.hex (hex4 c) a3 a2 (by rw [a1]; exact hs) hp
    rw [a1] at this
    unfold hexE
    simpa only [List.append_assoc, List.cons_append] using this
/-- A character that stands as it is. -/
theorem utf8_plain {c : Nat} (h34 : c ≠ 34) (h92 : c ≠ 92) : ∀ b ∈ utf8 c, b ≠ 34 ∧ b ≠ 92 := by
  have big : ∀ k : Nat, 128 ≤ k → k < 256 → UInt8.ofNat k ≠ 34 ∧ UInt8.ofNat k ≠ 92 := by
    intro k h1 h2
    have e : (UInt8.ofNat k).toNat = k := by simp; omega
    constructor
    · intro hh
      rw [hh] at e
      have : (34 : UInt8).toNat = 34 := rfl
      omega
    · intro hh
      rw [hh] at e
      have : (92 : UInt8).toNat = 92 := rfl
      omega
  intro b hb
  unfold utf8 at hb
  by_cases h1 : c < 0x80
  · rw [if_pos h1, List.mem_singleton] at hb
    subst hb
    have e : (UInt8.ofNat c).toNat = c := by simp; omega
    constructor
    · intro hh
      rw [hh] at e
      exact h34 e.symm
    · intro hh
      rw [hh] at e
      exact h92 e.symm
  · rw [if_neg h1] at hb
    by_cases h2 : c < 0x800
    · rw [if_pos h2] at hb
      simp only [List.mem_cons, List.not_mem_nil, or_false] at hb
      rcases hb with rfl | rfl
      · exact big _ (by omega) (by omega)
      · exact big _ (by omega) (by omega)
    · rw [if_neg h2] at hb
      by_cases h3 : 0xd800 ≤ c ∧ c < 0xe000 ∨ 0x10ffff < c
      · rw [if_pos h3] at hb
        simp only [List.mem_cons, List.not_mem_nil, or_false] at hb
        rcases hb with rfl | rfl | rfl <;> decide
      · rw [if_neg h3] at hb
        by_cases h4 : c < 0x10000
        · rw [if_pos h4] at hb
          simp only [List.mem_cons, List.not_mem_nil, or_false] at hb
          rcases hb with rfl | rfl | rfl
          · exact big _ (by omega) (by omega)
          · exact big _ (by omega) (by omega)
          · exact big _ (by omega) (by omega)
        · rw [if_neg h4] at hb
          simp only [List.mem_cons, List.not_mem_nil, or_false] at hb
          rcases hb with rfl | rfl | rfl | rfl
          · exact big _ (by omega) (by omega)
          · exact big _ (by omega) (by omega)
          · exact big _ (by omega) (by omega)
          · exact big _ (by omega) (by omega)
theorem plain_pieces {c : Nat} (h34 : c ≠ 34) (h92 : c ≠ 92) {r v : Bs} (hp : Pieces r v) : Pieces (utf8 c ++ r) (utf8 c ++ v) := .plain _ (utf8_plain h34 h92) hp
/-- An object of one field that is a text. -/
theorem one_field {k kv raw val : Bs} (hk : Pieces k kv) (hr : Pieces raw val) : pTop (123 :: 34 :: (k ++ 34 :: 58 :: 34 :: (raw ++ [34, 125]))) = some (.obj [(k, .str raw)]) := by
  have h1 : ReadsP (.str raw) (34 :: (raw ++ [34])) 0 := ⟨[], 34 :: (raw ++ [34]), [], by simp, .nil, .nil, .of _ rfl, reads_str hr⟩
  have h2 := reads_obj (dep := 0) (l := [((k, .str raw), 34 :: (k ++ 34 :: 58 :: (34 :: (raw ++ [34]))))]) (fun p hp => by
    rw [List.mem_singleton] at hp
    subst hp
    exact ⟨[], kv, [], 34 :: (raw ++ [34]), rfl, .nil, .nil, hk, h1⟩) (by simp)
  have h3 : ReadsP (.obj [(k, .str raw)]) (123 :: 34 :: (k ++ 34 :: 58 :: 34 :: (raw ++ [34, 125]))) 1 := by
    refine ⟨[], 123 :: 34 :: (k ++ 34 :: 58 :: 34 :: (raw ++ [34, 125])), [], by simp, .nil, .nil, .of _ rfl, ?_⟩
    have e : (123 :: (commas [34 :: (k ++ 34 :: 58 :: (34 :: (raw ++ [34])))] ++ [125])) = 123 :: 34 :: (k ++ 34 :: 58 :: 34 :: (raw ++ [34, 125])) := by
      simp [commas]
    rw [← e]
    exact h2
  exact pTop_of h3 (by omega)
end Go.Proofs.YtgldcjmdjhghpaaGreatDoor
