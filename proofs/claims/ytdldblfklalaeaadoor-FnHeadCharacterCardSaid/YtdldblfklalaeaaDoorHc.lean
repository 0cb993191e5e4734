/-
  FnHeadCharacter: its walk.
-/
import Derived.Test.YtdldblfklalaeaaDoorQm
namespace Go.Proofs.YtdldblfklalaeaaDoor
open Go.RowKit Go.Proofs.YtdldblfklalaeaaDoorW.PrintWords Go.ChangeShapes Go.WideShapes
set_option linter.unusedVariables false
set_option linter.unusedSimpArgs false
set_option maxRecDepth 100000
/-- What the law asks a header: one character. -/
theorem char_told {body : Bs} {c : Nat} (hp : Pieces body (utf8 c)) (hl : body.length ≤ 12) :
    ∃ s : Bs, s = [123, 34, 97, 34, 58, 34] ++ body ++ [34, 125] ∧ s.length ≤ 20 ∧ FitO (pTop s) ∧ strT (pTop s) [97] = some (utf8 c) := by
  have ht : pTop ([123, 34, 97, 34, 58, 34] ++ body ++ [34, 125]) = some (.obj [([97], .str body)]) := by
    have := one_field (k := [97]) (raw := body) (plain_all [97] (by decide)) hp
    rw [← this]
    simp
  refine ⟨_, rfl, by simp; omega, ?_, ?_⟩
  · rw [ht]
    exact FitO.one ⟨(plain_all [97] (by decide)).well, by decide⟩ ⟨hp.well, by omega⟩
  · unfold strT
    rw [ht, tGet_one (plain_all [97] (by decide))]
    exact congrArg some hp.unesc
theorem strs_app (body : Bs) : (⟨#[123, 34, 97, 34, 58, 34]⟩ : ByteArray) ++ bStr body = bStr ([123, 34, 97, 34, 58, 34] ++ body) ∧ bStr ([123, 34, 97, 34, 58, 34] ++ body) ++ (⟨#[34, 125]⟩ : ByteArray) = bStr ([123, 34, 97, 34, 58, 34] ++ body ++ [34, 125]) :=
  ⟨bStr_app [123, 34, 97, 34, 58, 34] body, bStr_app _ [34, 125]⟩
/-- One question of the law, as the walk meets it. -/
theorem ask_char (w : World) (body : Bs) (c : Nat) (hp : Pieces body (utf8 c)) (hl : body.length ≤ 12) :
    ∃ t1 t2 W g n cap, (⟨#[123, 34, 97, 34, 58, 34]⟩ : ByteArray) ++ bStr body = t1 ∧ t1 ++ (⟨#[34, 125]⟩ : ByteArray) = t2 ∧ t1.size ≤ 18 ∧
      (convert 9 26 (.string t2)).run Tryd.prog w = .ok (.slice (some ⟨g, 0, none⟩) n cap) W ∧
      Calls Tryd.prog 7 #[.slice (some ⟨g, 0, none⟩) n cap, .string ⟨#[97]⟩] W (fun e w' => e = .returned (.tuple #[.string (bStr (utf8 c)), .bool true]) ∧ Below w.heap.size w w') := by
  obtain ⟨s, hs, hl2, hf, hst⟩ := char_told hp hl
  obtain ⟨W, g, cap, hcv, hB, hb⟩ := conv_s2b w s (by omega)
  obtain ⟨e1, e2⟩ := strs_app body
  refine ⟨_, _, W, g, s.length, cap, e1, e2, by rw [bStr_size]; simp; omega, by rw [← hs]; exact hcv, ?_⟩
  refine (headString_any s [97] W s.length cap _ (by omega) (by omega) hB.C hf).mono ?_
  rintro e w' ⟨rfl, hb2⟩
  rw [hst]
  exact ⟨rfl, hb.trans (hb2.mono hb.size)⟩
set_option maxHeartbeats 4000000 in
theorem headCharacter_any (a : Int) (w : World) (ha : 0 ≤ a ∧ a < 4294967296) :
    Calls Tryd.prog 3 #[.int .u32 a] w fun e w' => e = .returned (.bool true) ∧ Below w.heap.size w w' := by
  obtain ⟨a0, a1⟩ := ha
  obtain ⟨c, hc⟩ : ∃ c : Nat, c = (a % 1114112).toNat := ⟨_, rfl⟩
  have hc1 : c < 1114112 := by omega
  have ec : a % 1114112 = (c : Int) := by omega
  have HLv := Aside0.mk (fun w => headLive_any w)
  have c0 : (0 : Int) ≤ (c : Int) := by omega
  have c1 : (c : Int) < 1114112 := by omega
  by_cases hs : 55296 ≤ c ∧ c < 57344
  · have s1 : (55296 : Int) ≤ (c : Int) := by omega
    have s2 : (c : Int) < 57344 := by omega
    clear hc hc1 hs
    go_enter Tryd.func3, Tryd.ntmps3
    go_wp2_with fail
    refine (HLv.out _).mono ?_
    rintro e w1 ⟨rfl, hb⟩
    have HB := Aside0.mk hb
    clear hb
    go_wp2
    go_ret
    exact ⟨rfl, HB.out⟩
  · have hsur : isSur c = false := by
      unfold isSur
      rw [Bool.and_eq_false_iff, decide_eq_false_iff_not, decide_eq_false_iff_not]
      omega
    have hE := escN_pieces hc1 hsur Pieces.nil
    rw [List.append_nil, List.append_nil] at hE
    have hEl : (escN c).length ≤ 12 := by unfold escN; split <;> simp [hexE, hex4]
    obtain ⟨t1, t2, W, g, n, cap, e1, e2, hz1, cv, hA⟩ := ask_char w (escN c) c hE hEl
    have HE := Aside0.mk (fun w => headEscape_any c w hc1)
    have hen := encode_utf8 c
    have HU := Aside0.mk (fun w1 (h34 : c ≠ 34) (h92 : c ≠ 92) => ask_char w1 (utf8 c) c (by
      have := plain_pieces h34 h92 Pieces.nil
      rwa [List.append_nil] at this) (by have := (utf8_bds c).2; omega))
    obtain ⟨u, hu⟩ : ∃ u, u = bStr (escN c) := ⟨_, rfl⟩
    have hus : u.size ≤ 12 := by rw [hu, bStr_size]; exact hEl
    have hvs : (bStr (utf8 c)).size ≤ 4 := by rw [bStr_size]; exact (utf8_bds c).2
    obtain ⟨v, hv⟩ : ∃ v, v = bStr (utf8 c) := ⟨_, rfl⟩
    rw [← hu] at e1 HE
    rw [← hv] at hA hen hvs
    have HA := Aside0.mk hA
    have HVv := Aside0.mk hv
    clear hv
    have hd : (decide (55296 ≤ (c : Int)) = true ∧ decide ((c : Int) < 57344) = false) ∨ decide (55296 ≤ (c : Int)) = false := by
      by_cases h : 55296 ≤ c
      · exact .inl ⟨decide_eq_true (by omega), decide_eq_false (by omega)⟩
      · exact .inr (decide_eq_false (by omega))
    have hq : c < 32 ∨ (¬ c < 32 ∧ (c = 34 ∨ (c ≠ 34 ∧ (c = 92 ∨ c ≠ 92)))) := by omega
    clear hc hc1 hs hsur hE hEl hA hu
    rcases hd with ⟨d1, d2⟩ | d1
    · go_enter Tryd.func3, Tryd.ntmps3
      go_wp2_with fail
      refine (HE.out _).mono ?_
      rintro e w1 ⟨rfl, rfl⟩
      go_wp2_with fail
      refine HA.out.mono ?_
      rintro e w1 ⟨rfl, hb⟩
      have HB := Aside0.mk hb
      clear hb cv e1 e2 d1 d2
      rcases hq with h32 | ⟨h32, h34 | ⟨h34, h92 | h92⟩⟩
      · have q1 : decide ((c : Int) < 32) = true := decide_eq_true (by omega)
        clear h32
        go_wp2_with fail
        refine (HLv.out _).mono ?_
        rintro e w2 ⟨rfl, hb⟩
        have HB2 := Aside0.mk hb
        clear hb
        go_wp2
        go_ret
        exact ⟨rfl, HB.out.trans (HB2.out.mono HB.out.size)⟩
      · have q1 : decide ((c : Int) < 32) = false := decide_eq_false (by omega)
        have q2 : ((c : Int) == 34) = true := by rw [beq_iff_eq]; omega
        clear h32 h34
        go_wp2_with fail
        refine (HLv.out _).mono ?_
        rintro e w2 ⟨rfl, hb⟩
        have HB2 := Aside0.mk hb
        clear hb
        go_wp2
        go_ret
        exact ⟨rfl, HB.out.trans (HB2.out.mono HB.out.size)⟩
      · have q1 : decide ((c : Int) < 32) = false := decide_eq_false (by omega)
        have q2 : ((c : Int) == 34) = false := by rw [beq_eq_false_iff_ne]; omega
        have q3 : ((c : Int) == 92) = true := by rw [beq_iff_eq]; omega
        clear h32 h34 h92
        go_wp2_with fail
        refine (HLv.out _).mono ?_
        rintro e w2 ⟨rfl, hb⟩
        have HB2 := Aside0.mk hb
        clear hb
        go_wp2
        go_ret
        exact ⟨rfl, HB.out.trans (HB2.out.mono HB.out.size)⟩
      · obtain ⟨x1, x2, W2, g2, n2, cap2, e1, e2, hz1, cv, hA2⟩ := HU.out w1 h34 h92
        rw [← HVv.out] at e1 hA2
        have HA2 := Aside0.mk hA2
        have q1 : decide ((c : Int) < 32) = false := decide_eq_false (by omega)
        have q2 : ((c : Int) == 34) = false := by rw [beq_eq_false_iff_ne]; omega
        have q3 : ((c : Int) == 92) = false := by rw [beq_eq_false_iff_ne]; omega
        clear h32 h34 h92 hA2
        go_wp2_with fail
        refine HA2.out.mono ?_
        rintro e w2 ⟨rfl, hb⟩
        have HB2 := Aside0.mk (HB.out.trans (hb.mono HB.out.size))
        clear hb cv e1 e2
        go_wp2_with fail
        refine (HLv.out _).mono ?_
        rintro e w3 ⟨rfl, hb⟩
        have HB3 := Aside0.mk hb
        clear hb
        go_wp2
        go_ret
        exact ⟨rfl, HB2.out.trans (HB3.out.mono HB2.out.size)⟩
    · go_enter Tryd.func3, Tryd.ntmps3
      go_wp2_with fail
      refine (HE.out _).mono ?_
      rintro e w1 ⟨rfl, rfl⟩
      go_wp2_with fail
      refine HA.out.mono ?_
      rintro e w1 ⟨rfl, hb⟩
      have HB := Aside0.mk hb
      clear hb cv e1 e2 d1
      rcases hq with h32 | ⟨h32, h34 | ⟨h34, h92 | h92⟩⟩
      · have q1 : decide ((c : Int) < 32) = true := decide_eq_true (by omega)
        clear h32
        go_wp2_with fail
        refine (HLv.out _).mono ?_
        rintro e w2 ⟨rfl, hb⟩
        have HB2 := Aside0.mk hb
        clear hb
        go_wp2
        go_ret
        exact ⟨rfl, HB.out.trans (HB2.out.mono HB.out.size)⟩
      · have q1 : decide ((c : Int) < 32) = false := decide_eq_false (by omega)
        have q2 : ((c : Int) == 34) = true := by rw [beq_iff_eq]; omega
        clear h32 h34
        go_wp2_with fail
        refine (HLv.out _).mono ?_
        rintro e w2 ⟨rfl, hb⟩
        have HB2 := Aside0.mk hb
        clear hb
        go_wp2
        go_ret
        exact ⟨rfl, HB.out.trans (HB2.out.mono HB.out.size)⟩
      · have q1 : decide ((c : Int) < 32) = false := decide_eq_false (by omega)
        have q2 : ((c : Int) == 34) = false := by rw [beq_eq_false_iff_ne]; omega
        have q3 : ((c : Int) == 92) = true := by rw [beq_iff_eq]; omega
        clear h32 h34 h92
        go_wp2_with fail
        refine (HLv.out _).mono ?_
        rintro e w2 ⟨rfl, hb⟩
        have HB2 := Aside0.mk hb
        clear hb
        go_wp2
        go_ret
        exact ⟨rfl, HB.out.trans (HB2.out.mono HB.out.size)⟩
      · obtain ⟨x1, x2, W2, g2, n2, cap2, e1, e2, hz1, cv, hA2⟩ := HU.out w1 h34 h92
        rw [← HVv.out] at e1 hA2
        have HA2 := Aside0.mk hA2
        have q1 : decide ((c : Int) < 32) = false := decide_eq_false (by omega)
        have q2 : ((c : Int) == 34) = false := by rw [beq_eq_false_iff_ne]; omega
        have q3 : ((c : Int) == 92) = false := by rw [beq_eq_false_iff_ne]; omega
        clear h32 h34 h92 hA2
        go_wp2_with fail
        refine HA2.out.mono ?_
        rintro e w2 ⟨rfl, hb⟩
        have HB2 := Aside0.mk (HB.out.trans (hb.mono HB.out.size))
        clear hb cv e1 e2
        go_wp2_with fail
        refine (HLv.out _).mono ?_
        rintro e w3 ⟨rfl, hb⟩
        have HB3 := Aside0.mk hb
        clear hb
        go_wp2
        go_ret
        exact ⟨rfl, HB2.out.trans (HB3.out.mono HB2.out.size)⟩
theorem headCharacter_row (a : Int) (w : World) (ha : (Lit.int .u32 a).wf = true) :
    Calls Tryd.prog 3 #[.int .u32 a] w fun e w' => e = .returned (.bool true) ∧ Below w.heap.size w w' :=
  headCharacter_any a w (by
    simp [Lit.wf, IntKind.min, IntKind.max, IntKind.bits, IntKind.signed] at ha
    omega)
end Go.Proofs.YtdldblfklalaeaaDoor
