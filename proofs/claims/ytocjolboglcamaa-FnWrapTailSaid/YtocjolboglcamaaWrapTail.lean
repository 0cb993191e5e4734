/-
  FnWrapTail: the walk of the law.
-/
import Derived.Test.YtocjolboglcamaaWrapPadLaw
namespace Go.Proofs.Ytocjolboglcamaa
open Go.RowKit Go.Proofs.YtocjolboglcamaaW.PrintWords
set_option linter.unusedVariables false
set_option linter.unusedSimpArgs false
set_option maxRecDepth 100000 in
set_option maxHeartbeats 2000000 in
theorem wrapTail_main (w : World) (A : Option Addr) (c : Nat) (xs : List UInt8) (p : UInt8) (many : Nat) (hm0 : 0 < many) (hm1 : many < 256) (hs : xs.length ≤ 2000) (HC : Aside0 (kB.C w A xs.length xs)) (HCS : Aside0 (kBB.C (w.alloc (.cells #[.slice A xs.length c] 38)) (some ⟨w.heap.size, 0, none⟩) [xs].length [xs]))
    (HX : Aside0 (∀ h : xs ≠ [], xs.getLast h ≠ p)) :
    Calls Try.prog 6 #[.slice A xs.length c, .int .u8 (p.toNat : Int), .int .u8 (many : Int)] w fun e w' => e = .returned (.bool true) ∧ Below w.heap.size w w' := by
  have hp := p.toNat_lt
  have t0 : ((many : Int) == 0) = false := beq_eq_false_iff_ne.2 (by omega)
  have HS1 : Aside0 (shortOk [xs] = true) := ⟨by rw [short_one]; exact decide_eq_true hs⟩
  have HL := Aside0.mk ((Hold.start w).alloc_ (.cells #[.slice A xs.length c] 38))
  obtain ⟨m, hm⟩ : ∃ m, (xs ++ List.replicate many p).length = m + 1 := ⟨xs.length + many - 1, by simp; omega⟩
  have HM := Aside0.mk hm
  have hml : (xs ++ List.replicate many p).length ≤ 3000 := by simp; omega
  obtain ⟨ys, hys⟩ : ∃ ys, xs ++ List.replicate many p = ys := ⟨_, rfl⟩
  have HYS := Aside0.mk hys
  rw [hys] at HM hml
  clear hm hys
  have HR0 : Aside0 (if many < p.toNat then exN ys m = 0 ∧ exV ys m = 0 else exN ys m = (p.toNat : Int) ∧ exV ys m = 255) := ⟨by
    rw [← HYS.out]
    split
    · rename_i h
      exact ex_bad xs p many m hm0 h (by rw [HYS.out]; exact HM.out) HX.out
    · rename_i h
      exact ex_good xs p many m hm0 (by omega) (by rw [HYS.out]; exact HM.out)⟩
  have HG : Aside0 (xs = [] ∨ ∃ (ad : Addr) (b : UInt8), A = some ad ∧ w.cell? (ad.add (xs.length - 1)) = some (.int .u8 (b.toNat : Int)) ∧ ((b.toNat : Int) == (p.toNat : Int)) = false ∧ 0 < xs.length) := ⟨by
    rcases Nat.eq_zero_or_pos xs.length with h | h
    · exact .inl (List.eq_nil_of_length_eq_zero h)
    · obtain ⟨ad, e, hc⟩ := C1_get HC.out (xs.length - 1) (by omega)
      refine .inr ⟨ad, _, e, hc, ?_, h⟩
      have hne : xs ≠ [] := by rintro rfl; simp at h
      have h2 := HX.out hne
      rw [List.getLast_eq_getElem] at h2
      exact beq_eq_false_iff_ne.2 (fun e => h2 (b8_inj.1 e))⟩
  rcases HG.out with hx | ⟨ad, b, rfl, hcell, hbp, hpos⟩
  · subst hx
    clear HG HX
    go_enter Try.func6, Try.ntmps6
    go_wp2_with fail
    refine (short_any _ _ _ _ [[]] HCS.out).mono ?_
    rintro e w1 ⟨rfl, rfl⟩
    rw [HS1.out]
    go_wp2_with fail
    refine (own_any _ A _ c ([] : List UInt8) (by omega) (Kd.C_below HC.out HL.out.below)).mono ?_
    rintro e w1 ⟨v, rfl, hR⟩
    have H1 := Aside0.mk ((HL.out.app hR).pick [0] (by decide) (L' := [.row kB 5 v ([] : List UInt8)]) rfl)
    clear hR HL HC HCS
    go_wp2
    go_loopw [7, 41] (fun v i wr => ∃ k : Nat, k ≤ many ∧ i = .int .i64 (k : Int) ∧ Hold w w.heap.size wr [.row kB 5 v (([] : List UInt8) ++ List.replicate k p)]) (fun _ i _ => many - (intOf i).toNat)
    case atStart => exact ⟨0, Nat.zero_le _, rfl, by have h := H1.out; simpa using h⟩
    case round =>
      obtain ⟨k, hk, rfl, hR⟩ := hrel
      by_cases hlt : k < many
      · have HR := Aside0.mk hR
        have Hl2 : Aside0 (((([] : List UInt8) ++ List.replicate k p).length + 1) * 1 ≤ 140737488355328) := ⟨by simp; omega⟩
        clear hR
        go_wp2_with ((with_reducible refine at_bi (b := .append) (xs := #[.tmp 43, .tmp 45]) rfl ?_); at_builtin; refine Hold.append1 (kB) 0 HR.out rfl rfl (.tmp 43) (.tmp 45) 38 (.int .u8 0) 1 rfl Try.underlying38 info5 rfl (by decide) (by omega) (p) [.int .u8 (p.toNat : Int)] rfl rfl rfl Hl2.out ?_; intro _ _ HR3'; have HR3 := Aside0.mk HR3'; clear HR3' HR)
        go_roundw
        case measure => simp [intOf]; omega
        case rel =>
          refine ⟨k + 1, hlt, by go_num, ?_⟩
          rw [← padTail ([] : List UInt8) 0 k p]
          exact HR3.out
      · obtain rfl : k = many := by omega
        rw [HYS.out] at hR
        obtain ⟨A2, c2, rfl, _, q2⟩ := hR.reads 0 rfl
        have HR := Aside0.mk hR
        have Q2 := Aside0.mk q2
        clear hR q2
        go_wp2_with fail
        refine (own_any _ A2 _ c2 ys (by omega) Q2.out).mono ?_
        rintro e w3 ⟨v, rfl, hR⟩
        obtain ⟨A3, c3, rfl, _, q3⟩ := hR.reads 0 rfl
        have H3 := Aside0.mk (HR.out.app hR)
        have Q3 := Aside0.mk q3
        clear hR q3 HR Q2
        go_wp2_with fail
        refine (Unpadded_any _ A3 _ c3 ys m HM.out (by omega) Q3.out).mono ?_
        rintro e w4 ⟨rfl, hR⟩
        have H4 := Aside0.mk (((H3.out.app hR).pick [] (by decide) (L' := []) rfl))
        clear hR H3 Q3
        by_cases hlp : k < p.toNat
        · have h := HR0.out
          rw [if_pos hlp] at h
          rw [h.1, h.2]
          clear h HR0
          go_wp2_with fail
          refine (padAwake_any _).mono ?_
          rintro e w7 ⟨rfl, hR⟩
          have HE := Aside0.mk (H4.out.app hR).below
          clear hR H4
          go_wp2
          go_ret
          exact ⟨rfl, HE.out⟩
        · have h := HR0.out
          rw [if_neg hlp] at h
          rw [h.1, h.2]
          clear h HR0
          go_wp2_with fail
          refine (padAwake_any _).mono ?_
          rintro e w7 ⟨rfl, hR⟩
          have HE := Aside0.mk (H4.out.app hR).below
          clear hR H4
          go_wp2
          go_ret
          exact ⟨rfl, HE.out⟩
  · have tb := hbp
    have hix : IntKind.i64.wrap ((xs.length : Int) - 1) = ((xs.length - 1 : Nat) : Int) := by rw [IntWalk.i64_in _ (by omega)]; omega
    have tpos : decide (0 < (xs.length : Int)) = true := decide_eq_true (by omega)
    have hcell2 := ((HL.out.below.cell (p := ad.add (xs.length - 1)) (World.block_lt_of_cell? w _ hcell))).trans hcell
    clear HG
    go_enter Try.func6, Try.ntmps6
    go_wp2_with fail
    refine (short_any _ _ _ _ [xs] HCS.out).mono ?_
    rintro e w1 ⟨rfl, rfl⟩
    rw [HS1.out]
    go_wp2_with fail
    refine (own_any _ (some ad) _ c xs (by omega) (Kd.C_below HC.out HL.out.below)).mono ?_
    rintro e w1 ⟨v, rfl, hR⟩
    have H1 := Aside0.mk ((HL.out.app hR).pick [0] (by decide) (L' := [.row kB 5 v xs]) rfl)
    clear hR HL HC HCS
    go_wp2
    go_loopw [7, 41] (fun v i wr => ∃ k : Nat, k ≤ many ∧ i = .int .i64 (k : Int) ∧ Hold w w.heap.size wr [.row kB 5 v (xs ++ List.replicate k p)]) (fun _ i _ => many - (intOf i).toNat)
    case atStart => exact ⟨0, Nat.zero_le _, rfl, by have h := H1.out; simpa using h⟩
    case round =>
      obtain ⟨k, hk, rfl, hR⟩ := hrel
      by_cases hlt : k < many
      · have HR := Aside0.mk hR
        have Hl2 : Aside0 (((xs ++ List.replicate k p).length + 1) * 1 ≤ 140737488355328) := ⟨by simp; omega⟩
        clear hR
        go_wp2_with ((with_reducible refine at_bi (b := .append) (xs := #[.tmp 43, .tmp 45]) rfl ?_); at_builtin; refine Hold.append1 (kB) 0 HR.out rfl rfl (.tmp 43) (.tmp 45) 38 (.int .u8 0) 1 rfl Try.underlying38 info5 rfl (by decide) (by omega) (p) [.int .u8 (p.toNat : Int)] rfl rfl rfl Hl2.out ?_; intro _ _ HR3'; have HR3 := Aside0.mk HR3'; clear HR3' HR)
        go_roundw
        case measure => simp [intOf]; omega
        case rel =>
          refine ⟨k + 1, hlt, by go_num, ?_⟩
          rw [← padTail xs 0 k p]
          exact HR3.out
      · obtain rfl : k = many := by omega
        rw [HYS.out] at hR
        obtain ⟨A2, c2, rfl, _, q2⟩ := hR.reads 0 rfl
        have HR := Aside0.mk hR
        have Q2 := Aside0.mk q2
        clear hR q2
        go_wp2_with fail
        refine (own_any _ A2 _ c2 ys (by omega) Q2.out).mono ?_
        rintro e w3 ⟨v, rfl, hR⟩
        obtain ⟨A3, c3, rfl, _, q3⟩ := hR.reads 0 rfl
        have H3 := Aside0.mk (HR.out.app hR)
        have Q3 := Aside0.mk q3
        clear hR q3 HR Q2
        go_wp2_with fail
        refine (Unpadded_any _ A3 _ c3 ys m HM.out (by omega) Q3.out).mono ?_
        rintro e w4 ⟨rfl, hR⟩
        have H4 := Aside0.mk (((H3.out.app hR).pick [] (by decide) (L' := []) rfl))
        clear hR H3 Q3
        by_cases hlp : k < p.toNat
        · have h := HR0.out
          rw [if_pos hlp] at h
          rw [h.1, h.2]
          clear h HR0
          go_wp2_with fail
          refine (padAwake_any _).mono ?_
          rintro e w7 ⟨rfl, hR⟩
          have HE := Aside0.mk (H4.out.app hR).below
          clear hR H4
          go_wp2
          go_ret
          exact ⟨rfl, HE.out⟩
        · have h := HR0.out
          rw [if_neg hlp] at h
          rw [h.1, h.2]
          clear h HR0
          go_wp2_with fail
          refine (padAwake_any _).mono ?_
          rintro e w7 ⟨rfl, hR⟩
          have HE := Aside0.mk (H4.out.app hR).below
          clear hR H4
          go_wp2
          go_ret
          exact ⟨rfl, HE.out⟩
set_option maxRecDepth 100000 in
set_option maxHeartbeats 2000000 in
theorem wrapTail_any (w : World) (A : Option Addr) (n c : Nat) (xs : List UInt8) (p : UInt8) (many : Nat) (hk : many < 256) (hnc : n ≤ c) (hC : kB.C w A n xs) :
    Calls Try.prog 6 #[.slice A n c, .int .u8 (p.toNat : Int), .int .u8 (many : Int)] w fun e w' => e = .returned (.bool true) ∧ Below w.heap.size w w' := by
  obtain rfl := hC.1
  have hCS := CS_lit w 38 _ rfl [.slice A xs.length c] [xs] rfl (by simp) (fun j hj => by
    obtain rfl : j = 0 := by simp at hj; omega
    exact RdS.mk' hC hnc)
  have HC := Aside0.mk hC
  have HCS := Aside0.mk hCS
  have HL := Aside0.mk ((Hold.start w).alloc_ (.cells #[.slice A xs.length c] 38))
  by_cases h1 : 2147483647 < xs.length
  · clear hC hCS
    go_enter Try.func6, Try.ntmps6
    go_wp2
    go_ret
    exact ⟨rfl, Below.refl _ _⟩
  · have h1' : xs.length ≤ 2147483647 := by omega
    by_cases hs : xs.length ≤ 2000
    · have HS1 : Aside0 (shortOk [xs] = true) := ⟨by rw [short_one]; exact decide_eq_true hs⟩
      by_cases hm : many = 0
      · subst hm
        clear hC hCS
        go_enter Try.func6, Try.ntmps6
        go_wp2_with fail
        refine (short_any _ _ _ _ [xs] HCS.out).mono ?_
        rintro e w1 ⟨rfl, rfl⟩
        rw [HS1.out]
        go_wp2_with fail
        refine (padAwake_any _).mono ?_
        rintro e w7 ⟨rfl, hR⟩
        have HE := Aside0.mk (HL.out.app hR).below
        clear hR HL
        go_wp2
        go_ret
        exact ⟨rfl, HE.out⟩
      · by_cases hx : ∀ h : xs ≠ [], xs.getLast h ≠ p
        · exact wrapTail_main w A c xs p many (by omega) hk hs HC HCS ⟨hx⟩
        · have hne : xs ≠ [] := by
            rintro rfl
            exact hx (fun h => absurd rfl h)
          have hlast : xs.getLast hne = p := by
            rcases Decidable.em (xs.getLast hne = p) with h | h
            · exact h
            · exact absurd (fun _ => h) hx
          have hpos : 0 < xs.length := by
            rcases Nat.eq_zero_or_pos xs.length with h | h
            · exact absurd (List.eq_nil_of_length_eq_zero h) hne
            · exact h
          obtain ⟨ad, rfl, hcell⟩ := C1_get hC (xs.length - 1) (by omega)
          rw [List.getLast_eq_getElem] at hlast
          rw [hlast] at hcell
          unfold bV at hcell
          have hix : IntKind.i64.wrap ((xs.length : Int) - 1) = ((xs.length - 1 : Nat) : Int) := by rw [IntWalk.i64_in _ (by omega)]; omega
          have tpos : decide (0 < (xs.length : Int)) = true := decide_eq_true (by omega)
          have hcell2 := ((HL.out.below.cell (p := ad.add (xs.length - 1)) (World.block_lt_of_cell? w _ hcell))).trans hcell
          have t0 : ((many : Int) == 0) = false := beq_eq_false_iff_ne.2 (by omega)
          have hp := p.toNat_lt
          clear hC hCS hx hlast hne hm
          go_enter Try.func6, Try.ntmps6
          go_wp2_with fail
          refine (short_any _ _ _ _ [xs] HCS.out).mono ?_
          rintro e w1 ⟨rfl, rfl⟩
          rw [HS1.out]
          go_wp2_with fail
          refine (padAwake_any _).mono ?_
          rintro e w7 ⟨rfl, hR⟩
          have HE := Aside0.mk (HL.out.app hR).below
          clear hR HL
          go_wp2
          go_ret
          exact ⟨rfl, HE.out⟩
    · have HS1 : Aside0 (shortOk [xs] = false) := ⟨by rw [short_one]; exact decide_eq_false hs⟩
      clear hC hCS
      go_enter Try.func6, Try.ntmps6
      go_wp2_with fail
      refine (short_any _ _ _ _ [xs] HCS.out).mono ?_
      rintro e w1 ⟨rfl, rfl⟩
      rw [HS1.out]
      go_wp2_with fail
      refine (padAwake_any _).mono ?_
      rintro e w7 ⟨rfl, hR⟩
      have HE := Aside0.mk (HL.out.app hR).below
      clear hR HL
      go_wp2
      go_ret
      exact ⟨rfl, HE.out⟩
theorem wrapTail_row (A : Option Addr) (n c : Nat) (xs : List UInt8) (k many : Int) (w : World) (hC : kB.C w A n xs) (_ : AllOk AnyOk xs) (hn : xs.length * 1 ≤ 140737488351232 ∧ n ≤ c) (hk : (Lit.int .u8 k).wf = true) (hm : (Lit.int .u8 many).wf = true) :
    Calls Try.prog 6 #[.slice A n c, .int .u8 k, .int .u8 many] w fun e w' => e = .returned (.bool true) ∧ Below w.heap.size w w' := by
  obtain ⟨h0, h1⟩ := wf_u8 hk
  obtain ⟨g0, g1⟩ := wf_u8 hm
  obtain ⟨k, rfl⟩ := Int.eq_ofNat_of_zero_le h0
  obtain ⟨many, rfl⟩ := Int.eq_ofNat_of_zero_le g0
  have hk : ((UInt8.ofNat k).toNat : Int) = (k : Int) := by rw [UInt8.toNat_ofNat', Nat.mod_eq_of_lt (by omega)]
  rw [← hk]
  exact wrapTail_any w A n c xs (UInt8.ofNat k) many (by omega) hn.2 hC
end Go.Proofs.Ytocjolboglcamaa
