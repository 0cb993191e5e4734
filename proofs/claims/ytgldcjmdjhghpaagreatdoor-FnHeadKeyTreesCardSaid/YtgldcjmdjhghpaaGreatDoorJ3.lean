/-
  fastjson's parseRawNumber: its contract.
-/
import Derived.Test.YtgldcjmdjhghpaaGreatDoorQb
namespace Go.Proofs.YtgldcjmdjhghpaaGreatDoor
open Go.RowKit Go.Proofs.YtgldcjmdjhghpaaGreatDoorW.PrintWords Go.ChangeShapes Go.WideShapes
set_option linter.unusedVariables false
set_option linter.unusedSimpArgs false
set_option maxRecDepth 100000
theorem num_yes {c : UInt8} (h : numCh c = true) : (48 ≤ c.toNat ∧ c.toNat ≤ 57) ∨ c = 46 ∨ c = 45 ∨ c = 101 ∨ c = 69 ∨ c = 43 := by
  unfold numCh at h
  simp only [Bool.or_eq_true, Bool.and_eq_true, decide_eq_true_eq, beq_iff_eq] at h
  rcases h with ((((h | h) | h) | h) | h) | h
  · exact .inl ⟨UInt8.le_iff_toNat_le.1 h.1, UInt8.le_iff_toNat_le.1 h.2⟩
  · exact .inr (.inl h)
  · exact .inr (.inr (.inl h))
  · exact .inr (.inr (.inr (.inl h)))
  · exact .inr (.inr (.inr (.inr (.inl h))))
  · exact .inr (.inr (.inr (.inr (.inr h))))
theorem num_no {c : UInt8} (h : numCh c = false) : ¬ (48 ≤ c.toNat ∧ c.toNat ≤ 57) ∧ NeC c 46 ∧ NeC c 45 ∧ NeC c 101 ∧ NeC c 69 ∧ NeC c 43 := by
  unfold numCh at h
  simp only [Bool.or_eq_false_iff, beq_eq_false_iff_ne] at h
  obtain ⟨⟨⟨⟨⟨h0, h1⟩, h2⟩, h3⟩, h4⟩, h5⟩ := h
  refine ⟨fun hh => ?_, neC 46 (toNat_ne h1), neC 45 (toNat_ne h2), neC 101 (toNat_ne h3), neC 69 (toNat_ne h4), neC 43 (toNat_ne h5)⟩
  have h6 : (48 : UInt8) ≤ c := UInt8.le_iff_toNat_le.2 hh.1
  have h7 : c ≤ (57 : UInt8) := UInt8.le_iff_toNat_le.2 hh.2
  simp [h6, h7] at h0
structure Nums (s : Bs) (k : Nat) : Prop where
  out : ∀ c ∈ s.take k, numCh c = true
theorem Nums.step {s : Bs} {k : Nat} (h : Nums s k) (hk : k < s.length) (hw : numCh s[k] = true) : Nums s (k + 1) := ⟨fun c hc => by
  rw [List.take_succ_eq_append_getElem hk] at hc
  rcases List.mem_append.1 hc with hc | hc
  · exact h.out c hc
  · rw [List.mem_singleton] at hc
    rw [hc]
    exact hw⟩
theorem Nums.all {s : Bs} (h : Nums s s.length) : rawNum s = some (s, []) := by
  have hd : s.dropWhile numCh = [] := by
    have := h.out
    rw [List.take_length] at this
    clear h
    induction s with
    | nil => rfl
    | cons c r ih => rw [List.dropWhile_cons_of_pos (this c (by simp))]; exact ih (fun d hd => this d (by simp [hd]))
  unfold rawNum
  simp only [hd, if_true]
theorem Nums.parts {s : Bs} {k : Nat} (h : Nums s k) (hk : k < s.length) (hn : numCh s[k] = false) : s.takeWhile numCh = s.take k ∧ s.dropWhile numCh = s.drop k := by
  have h1 : s = s.take k ++ s.drop k := (List.take_append_drop k s).symm
  have h2 := List.drop_eq_getElem_cons hk
  constructor
  · conv => lhs; rw [h1]
    rw [List.takeWhile_append_of_pos h.out, h2, List.takeWhile_cons_of_neg (by rw [hn]; exact Bool.false_ne_true), List.append_nil]
  · conv => lhs; rw [h1]
    rw [List.dropWhile_append_of_pos h.out, h2, List.dropWhile_cons_of_neg (by rw [hn]; exact Bool.false_ne_true)]
/-- No digits ahead of the sign that is none of a number. -/
def shortNum (s : Bs) (k : Nat) : Prop := s.take k = [] ∨ s.take k = [45] ∨ s.take k = [43]
theorem raw_plain {s : Bs} {k : Nat} (h : Nums s k) (hk : k < s.length) (hn : numCh s[k] = false) (hs : ¬ shortNum s k) : rawNum s = some (s.take k, s.drop k) := by
  obtain ⟨h1, h2⟩ := h.parts hk hn
  unfold rawNum
  simp only [h1, h2]
  have hs2 : ¬ (s.take k = [] ∨ s.take k = [45] ∨ s.take k = [43]) := hs
  rw [if_neg (by rw [List.drop_eq_nil_iff]; omega), if_neg hs2]
theorem raw_short {s : Bs} {k : Nat} (h : Nums s k) (hk : k < s.length) (hn : numCh s[k] = false) (hs : shortNum s k) :
    rawNum s = if 3 ≤ (s.drop k).length ∧ (foldEq ((s.drop k).take 3) sINF = true ∨ foldEq ((s.drop k).take 3) sNAN = true) then some (s.take k ++ (s.drop k).take 3, (s.drop k).drop 3) else none := by
  obtain ⟨h1, h2⟩ := h.parts hk hn
  unfold rawNum
  simp only [h1, h2]
  have hs2 : s.take k = [] ∨ s.take k = [45] ∨ s.take k = [43] := hs
  rw [if_neg (by rw [List.drop_eq_nil_iff]; omega), if_pos hs2]
theorem short_not {s : Bs} {k : Nat} (h2 : 2 ≤ k) (hk : k < s.length) : ¬ shortNum s k := by
  have hl : (s.take k).length = k := by rw [List.length_take]; omega
  intro h
  unfold shortNum at h
  rcases h with h | h | h <;> (rw [h] at hl; simp at hl; try omega)
theorem short_zero (s : Bs) : shortNum s 0 := .inl rfl
theorem short_one (c : UInt8) (r : Bs) : shortNum (c :: r) 1 ↔ c = 45 ∨ c = 43 := by
  unfold shortNum
  simp
set_option maxHeartbeats 4000000 in
theorem rawNum_any (c0 : UInt8) (r0 : Bs) (w : World) (hl : (c0 :: r0).length ≤ 9223372036854775800) :
    Calls Tryz.prog 70 #[.string (bStr (c0 :: r0))] w (StrRes w (rawNum (c0 :: r0))) := by
  have T := tcons c0 r0
  have HS1 := Aside0.mk (short_one c0 r0)
  obtain ⟨s, hs⟩ : ∃ s, s = c0 :: r0 := ⟨_, rfl⟩
  have hsl : 1 ≤ s.length := by rw [hs]; simp
  rw [← hs] at T hl HS1 ⊢
  clear hs
  have hsz : (bStr s).size = s.length := bStr_size s
  have HD := Aside0.mk (bStr_drop s)
  have HTk := Aside0.mk (bStr_take s)
  have HX := Aside0.mk (bStr_ext s)
  obtain ⟨t, ht⟩ : ∃ t, t = bStr s := ⟨_, rfl⟩
  have HT := Aside0.mk ht
  rw [← ht] at T HD HTk HX hsz ⊢
  clear ht
  obtain ⟨-, tp, tn, tz, t0, tt⟩ := T
  have t0 := t0 tp
  clear tt
  have hl2 : t.size ≤ 9223372036854775800 := by omega
  have HZ := Aside0.mk hsz
  clear hsz
  have Hle : Aside0 (t.size ≤ s.length ∧ s.length ≤ t.size) := ⟨by have := HZ.out; omega⟩
  obtain ⟨res, hres⟩ : ∃ res, res = rawNum s := ⟨_, rfl⟩
  rw [← hres]
  have HR := Aside0.mk hres
  clear hres hl
  go_enter Tryz.func70, Tryz.ntmps70
  go_wp2
  go_loop [0, 11] (fun v i => ∃ k : Nat, k ≤ t.size ∧ v = .string t ∧ i = .int .i64 k ∧ Nums s k) (fun v i => t.size - (intOf i).toNat)
  case atStart => exact ⟨0, Nat.zero_le _, rfl, rfl, ⟨fun c hc => by simp at hc⟩⟩
  case round =>
    obtain ⟨k, hk, rfl, rfl, hB⟩ := hrel
    have HK := Aside0.mk hB
    clear hB
    by_cases hlt : k < t.size
    · have hks : k < s.length := by have := HZ.out; omega
      have tk : t[k] = s[k] := tget HT.out k hlt hks
      cases hd : numCh s[k] with
      | true =>
        have HN := Aside0.mk (HK.out.step hks hd)
        obtain ⟨c, hc⟩ : ∃ c, c = s[k] := ⟨_, rfl⟩
        rw [← hc] at tk hd
        clear hc
        have HY := num_yes hd
        clear hd hks
        rcases HY with ⟨h1, h2⟩ | rfl | rfl | rfl | rfl | rfl
        · have d1 : decide ((48 : Int) ≤ (c.toNat : Int)) = true := decide_eq_true (by omega)
          have d2 : decide ((c.toNat : Int) ≤ (57 : Int)) = true := decide_eq_true (by omega)
          clear h1 h2
          go_wp2
          go_round
          case rel => exact ⟨k + 1, hlt, rfl, by go_num, HN.out⟩
          case measure => simp [intOf]; omega
        all_goals
          go_wp2
          go_round
          case rel => exact ⟨k + 1, hlt, rfl, by go_num, HN.out⟩
          case measure => simp [intOf]; omega
      | false =>
        have HP := Aside0.mk (raw_plain HK.out hks hd)
        have HQ := Aside0.mk (raw_short HK.out hks hd)
        obtain ⟨c, hc⟩ : ∃ c, c = s[k] := ⟨_, rfl⟩
        rw [← hc] at tk hd
        clear hc
        obtain ⟨h0, ⟨a1, b1, d1⟩, ⟨a2, b2, d2⟩, ⟨a3, b3, d3⟩, ⟨a4, b4, d4⟩, ⟨a5, b5, d5⟩⟩ := num_no hd
        clear hd
        have H48 : Aside0 (decide ((48 : Int) ≤ (c.toNat : Int)) = false ∨ decide ((48 : Int) ≤ (c.toNat : Int)) = true ∧ decide ((c.toNat : Int) ≤ (57 : Int)) = false) := ⟨by
          by_cases h48 : 48 ≤ c.toNat
          · exact .inr ⟨decide_eq_true (by omega), decide_eq_false (by omega)⟩
          · exact .inl (decide_eq_false (by omega))⟩
        clear h0
        by_cases hsh : shortNum s k
        · have HQ2 := Aside0.mk (HQ.out hsh)
          clear HQ HP
          have hk1 : k = 0 ∨ k = 1 ∧ (c0 = 45 ∨ c0 = 43) := by
            rcases Nat.lt_or_ge k 2 with h | h
            · rcases (show k = 0 ∨ k = 1 by omega) with h | h
              · exact .inl h
              · subst h
                exact .inr ⟨rfl, HS1.out.1 hsh⟩
            · exact absurd hsh (short_not h hks)
          clear hsh
          by_cases h3 : k + 3 ≤ t.size
          · have i3 : (3 : Int) ≤ (t.size - k : Nat) := by omega
            have HL3 := Aside0.mk (show 3 ≤ (s.drop k).length by rw [List.length_drop]; have := HZ.out; omega)
            have HT3 := Aside0.mk (show (s.take (k + 3)).drop k = (s.drop k).take 3 by rw [List.drop_take]; congr 1; omega)
            have HTD := Aside0.mk (show s.take (k + 3) = s.take k ++ (s.drop k).take 3 ∧ s.drop (k + 3) = (s.drop k).drop 3 by
              constructor
              · rw [List.take_add]
              · rw [List.drop_drop])
            obtain ⟨b1, hb1⟩ : ∃ b, b = foldEq ((s.drop k).take 3) sINF := ⟨_, rfl⟩
            obtain ⟨b2, hb2⟩ : ∃ b, b = foldEq ((s.drop k).take 3) sNAN := ⟨_, rfl⟩
            have HB1 := Aside0.mk hb1
            have HB2 := Aside0.mk hb2
            have HF1 : Aside0 (∀ w, Calls Tryz.prog 68 #[.string (t.extract k (k + 3)), .string ⟨#[105, 110, 102]⟩] w fun e w' => e = .returned (.bool b1) ∧ w = w') := ⟨fun w => by
              rw [HX.out, HT3.out, HB1.out]
              exact fold_any _ sINF w (by rw [List.length_take]; omega) (by decide)⟩
            have HF2 : Aside0 (∀ w, Calls Tryz.prog 68 #[.string (t.extract k (k + 3)), .string ⟨#[110, 97, 110]⟩] w fun e w' => e = .returned (.bool b2) ∧ w = w') := ⟨fun w => by
              rw [HX.out, HT3.out, HB2.out]
              exact fold_any _ sNAN w (by rw [List.length_take]; omega) (by decide)⟩
            have HRES : Aside0 (res = if b1 = true ∨ b2 = true then some (s.take (k + 3), s.drop (k + 3)) else none) := ⟨by
              rw [HR.out, HQ2.out, HTD.out.1, HTD.out.2, HB1.out, HB2.out]
              by_cases h : foldEq (List.take 3 (List.drop k s)) sINF = true ∨ foldEq (List.take 3 (List.drop k s)) sNAN = true
              · rw [if_pos ⟨HL3.out, h⟩, if_pos h]
              · rw [if_neg (fun hh => h hh.2), if_neg h]⟩
            clear hb1 hb2 HQ2 HT3 HTD HL3 hks
            rcases hk1 with rfl | ⟨rfl, hc⟩
            · obtain rfl : c = c0 := tk.symm.trans t0
              clear tk
              have i4 : (3 : Int) ≤ (t.size : Int) := by omega
              clear h3 i3
              rcases H48.out with g1 | ⟨g1, g2⟩
              all_goals
                go_wp2_with fail
                refine (HF1.out _).mono ?_
                rintro e w1 ⟨rfl, rfl⟩
                cases b1 with
                | true =>
                  go_wp2
                  go_quiet (fail)
                  go_wp2
                  go_ret3
                  rw [show res = some (s.take (0 + 3), s.drop (0 + 3)) from HRES.out.trans (if_pos (by simp))]
                  exact StrRes.yes ((Hold.start w).drewN _).below (by rw [← HTk.out, ← HD.out]; rfl)
                | false =>
                  go_wp2_with fail
                  refine (HF2.out _).mono ?_
                  rintro e w1 ⟨rfl, rfl⟩
                  cases b2 with
                  | true =>
                    go_wp2
                    go_quiet (fail)
                    go_wp2
                    go_ret3
                    rw [show res = some (s.take (0 + 3), s.drop (0 + 3)) from HRES.out.trans (if_pos (by simp))]
                    exact StrRes.yes ((Hold.start w).drewN _).below (by rw [← HTk.out, ← HD.out]; rfl)
                  | false =>
                    have HRN : Aside0 (res = none) := ⟨HRES.out.trans (if_neg (by simp))⟩
                    go_wp2_with fail
                    refine (errNew_b _ _).mono ?_
                    rintro e w1 ⟨rfl, hE⟩
                    have HE := Aside0.mk hE
                    clear hE
                    go_wp2
                    go_ret3
                    rw [HRN.out]
                    exact StrRes.no HE.out rfl
            · have i5 : (3 : Int) ≤ ((t.size : Int) - 1) := by omega
              have i6 : (4 : Int) ≤ (t.size : Int) := by omega
              have i7 : 4 ≤ t.size := by omega
              clear h3
              rcases hc with rfl | rfl
              all_goals
                rcases H48.out with g1 | ⟨g1, g2⟩
                all_goals
                  go_wp2_with fail
                  refine (HF1.out _).mono ?_
                  rintro e w1 ⟨rfl, rfl⟩
                  cases b1 with
                  | true =>
                    go_wp2
                    go_quiet (fail)
                    go_wp2
                    go_ret3
                    rw [show res = some (s.take (1 + 3), s.drop (1 + 3)) from HRES.out.trans (if_pos (by simp))]
                    exact StrRes.yes ((Hold.start w).drewN _).below (by rw [← HTk.out, ← HD.out]; rfl)
                  | false =>
                    go_wp2_with fail
                    refine (HF2.out _).mono ?_
                    rintro e w1 ⟨rfl, rfl⟩
                    cases b2 with
                    | true =>
                      go_wp2
                      go_quiet (fail)
                      go_wp2
                      go_ret3
                      rw [show res = some (s.take (1 + 3), s.drop (1 + 3)) from HRES.out.trans (if_pos (by simp))]
                      exact StrRes.yes ((Hold.start w).drewN _).below (by rw [← HTk.out, ← HD.out]; rfl)
                    | false =>
                      have HRN : Aside0 (res = none) := ⟨HRES.out.trans (if_neg (by simp))⟩
                      go_wp2_with fail
                      refine (errNew_b _ _).mono ?_
                      rintro e w1 ⟨rfl, hE⟩
                      have HE := Aside0.mk hE
                      clear hE
                      go_wp2
                      go_ret3
                      rw [HRN.out]
                      exact StrRes.no HE.out rfl
          · have HRN : Aside0 (res = none) := ⟨by
              rw [HR.out, HQ2.out, if_neg]
              rintro ⟨h, _⟩
              rw [List.length_drop] at h
              have := HZ.out
              omega⟩
            clear HQ2 hks
            rcases hk1 with rfl | ⟨rfl, hc⟩
            · obtain rfl : c = c0 := tk.symm.trans t0
              clear tk
              have i4 : (t.size : Int) < 3 := by omega
              have i5 : ¬ (3 : Int) ≤ (t.size : Int) := by omega
              clear h3
              rcases H48.out with g1 | ⟨g1, g2⟩
              all_goals
                go_wp2_with fail
                refine (errNew_b _ _).mono ?_
                rintro e w1 ⟨rfl, hE⟩
                have HE := Aside0.mk hE
                clear hE
                go_wp2
                go_ret3
                rw [HRN.out]
                exact StrRes.no HE.out rfl
            · have i4 : ((t.size - 1 : Nat) : Int) < 3 := by omega
              have i5 : ¬ (3 : Int) ≤ ((t.size - 1 : Nat) : Int) := by omega
              clear h3
              rcases hc with rfl | rfl
              all_goals
                rcases H48.out with g1 | ⟨g1, g2⟩
                all_goals
                  go_wp2_with fail
                  refine (errNew_b _ _).mono ?_
                  rintro e w1 ⟨rfl, hE⟩
                  have HE := Aside0.mk hE
                  clear hE
                  go_wp2
                  go_ret3
                  rw [HRN.out]
                  exact StrRes.no HE.out rfl
        · have HRS : Aside0 (res = some (s.take k, s.drop k)) := ⟨HR.out.trans (HP.out hsh)⟩
          have hk0 : k ≠ 0 := fun h => hsh (h ▸ short_zero s)
          have j0 : ((k : Int) == 0) = false := by rw [beq_eq_false_iff_ne]; omega
          have j1 : ¬ (k : Int) = 0 := by omega
          clear HP HQ hks
          by_cases hk1 : k = 1
          · subst hk1
            have hcc : c0 ≠ 45 ∧ c0 ≠ 43 := ⟨fun h => hsh (HS1.out.2 (.inl h)), fun h => hsh (HS1.out.2 (.inr h))⟩
            have N1 : NeC c0 45 := neC 45 (toNat_ne hcc.1)
            have N2 : NeC c0 43 := neC 43 (toNat_ne hcc.2)
            obtain ⟨p1, q1, r1⟩ := N1
            obtain ⟨p2, q2, r2⟩ := N2
            clear hsh hcc hk0 j0 j1
            rcases H48.out with g1 | ⟨g1, g2⟩
            all_goals
              go_wp2
              go_ret3
              rw [HRS.out]
              exact StrRes.yes (Below.refl _ _) (by rw [← HTk.out, ← HD.out]; rfl)
          · have j2 : ((k : Int) == 1) = false := by rw [beq_eq_false_iff_ne]; omega
            have j3 : ¬ (k : Int) = 1 := by omega
            clear hsh hk1
            rcases H48.out with g1 | ⟨g1, g2⟩
            all_goals
              go_wp2
              go_ret3
              rw [HRS.out]
              exact StrRes.yes (Below.refl _ _) (by rw [← HTk.out, ← HD.out]; rfl)
    · have HE := Aside0.mk (Nums.all (by
        have h := HK.out
        rwa [show k = s.length by have := HZ.out; omega] at h))
      go_wp2
      go_ret3
      rw [show res = some (s, []) from HR.out.trans HE.out]
      exact StrRes.yes (Below.refl _ _) (by rw [← HT.out]; rfl)
end Go.Proofs.YtgldcjmdjhghpaaGreatDoor
